/- Contracts: the specification's reader of addresses. -/
import Derived.Test.YteedhaenbamiaaaGreatDoorAdL
import Derived.Test.YteedhaenbamiaaaGreatDoorSpW9
set_option linter.unusedVariables false
set_option linter.unusedSimpArgs false
namespace Go.Proofs.YteedhaenbamiaaaGreatDoor
open Go.RowKit

set_option maxRecDepth 4000 in
set_option maxHeartbeats 2000000 in
theorem isWords_c (v : Value) (l : Tx) (w0 w : World) (h0 : Le w0 w) (hv : Bv w0 v l) (hl : l.length ≤ 1099511627000) :
    Calls Tryz.prog 72 #[v] w fun e w' => e = .returned (.bool (wordsB l)) ∧ Le w w' := by
  have HV := Lib.hid hv
  have H0 := Lib.hid h0
  clear hv h0
  go_enter Tryz.func72, Tryz.ntmps72
  go_wp2_with fail
  refine (parts_c v l 32 w0 w H0.out HV.out hl).mono ?_
  rintro e w1 ⟨pv, rfl, hsl, hle1⟩
  have HSL := Lib.hid hsl
  have HLE1 := Lib.hid hle1
  obtain ⟨A9, c9, rfl, hk1, hk2, hk3, _⟩ := hsl
  have HWB : Hid (wordsB l = (pcs 32 l).all isTok) := Lib.hid rfl
  clear hle1
  have HL01 := Lib.hid (H0.out.trans HLE1.out)
  generalize pcs 32 l = ls at HSL HWB hk1 hk3 ⊢
  go_wp2
  go_loop [4] (fun i => ∃ k : Nat, k ≤ ls.length ∧ i = .int .i64 k ∧ (ls.take k).all isTok = true) (fun i => ls.length - (intOf i).toNat)
  case atStart => exact ⟨0, Nat.zero_le _, rfl, rfl⟩
  case round =>
    obtain ⟨k, hk, rfl, hq⟩ := hrel
    have HQ := Lib.hid hq
    clear hq
    by_cases hlt : k < ls.length
    · obtain ⟨g, o, rfl, x, d1, X⟩ := HSL.out.at_ hlt
      have HC := Lib.hid (isToken_c x ls[k] w1 (X.out.le HL01.out))
      rcases ht : isTok ls[k] with _ | _
      · have HX : Hid (wordsB l = false) := Lib.hid (by rw [HWB.out]; exact List.all_eq_false.2 ⟨ls[k], List.getElem_mem hlt, by rw [ht]; simp⟩)
        rw [ht] at HC
        clear ht
        go_wp2_with (go_at_call 97; refine HC.out.mono ?_; rintro e w' ⟨rfl, rfl⟩)
        go_ret
        exact ⟨by rw [HX.out]; rfl, HLE1.out⟩
      · have HX : Hid ((ls.take (k + 1)).all isTok = true) := Lib.hid (by rw [List.take_succ_eq_append_getElem hlt, List.all_append, HQ.out]; simpa using ht)
        rw [ht] at HC
        clear ht
        go_wp2_with (go_at_call 97; refine HC.out.mono ?_; rintro e w' ⟨rfl, rfl⟩)
        go_round
        case rel => exact ⟨k + 1, by omega, by go_num, HX.out⟩
        case measure => simp [intOf]; omega
    · have HX : Hid (wordsB l = true) := Lib.hid (by
        rw [HWB.out]
        have h1 := HQ.out
        rw [List.take_of_length_le (by omega)] at h1
        exact h1)
      go_wp2
      go_ret
      exact ⟨by rw [HX.out]; rfl, HLE1.out⟩

theorem quoC_of {c : UInt8} (h1 : ¬ (c.toNat : Int) < 32) (h2 : ¬ (c.toNat : Int) > 126) (h3 : (c.toNat : Int) ≠ 34) (h4 : (c.toNat : Int) ≠ 92) : quoC c = true := by
  have e3 : c ≠ 34 := by rintro rfl; exact h3 rfl
  have e4 : c ≠ 92 := by rintro rfl; exact h4 rfl
  have e1 : (32 : UInt8) ≤ c := by rw [UInt8.le_iff_toNat_le]; show 32 ≤ c.toNat; omega
  have e2 : c ≤ (126 : UInt8) := by rw [UInt8.le_iff_toNat_le]; show c.toNat ≤ 126; omega
  simp [quoC, e1, e2, e3, e4]
theorem quoC_no {c : UInt8} (h : (c.toNat : Int) < 32 ∨ (c.toNat : Int) > 126 ∨ (c.toNat : Int) = 34 ∨ (c.toNat : Int) = 92) : quoC c = false := by
  rcases h with h | h | h | h
  · have : ¬ (32 : UInt8) ≤ c := by rw [UInt8.le_iff_toNat_le]; show ¬ 32 ≤ c.toNat; omega
    simp [quoC, this]
  · have : ¬ c ≤ (126 : UInt8) := by rw [UInt8.le_iff_toNat_le]; show ¬ c.toNat ≤ 126; omega
    simp [quoC, this]
  · have : c = 34 := u8_of (n := 34) h (by decide)
    simp [quoC, this]
  · have : c = 92 := u8_of (n := 92) h (by decide)
    simp [quoC, this]
set_option maxRecDepth 4000 in
set_option maxHeartbeats 2000000 in
theorem isQuot_c (v : Value) (l : Tx) (w : World) (hv : Bv w v l) : Calls Tryz.prog 71 #[v] w fun e w' => e = .returned (.bool (quoB l)) ∧ w = w' := by
  obtain ⟨A, cc, rfl, h1, h2, h4⟩ := hv
  have h3 := h4.1
  have HR := Lib.hid h4
  clear h4
  go_enter Tryz.func71, Tryz.ntmps71
  go_wp2
  go_loop [3] (fun i => ∃ k : Nat, k ≤ l.length ∧ i = .int .i64 k ∧ (l.take k).all quoC = true) (fun i => l.length - (intOf i).toNat)
  case atStart => exact ⟨0, Nat.zero_le _, rfl, rfl⟩
  case round =>
    obtain ⟨k, hk, rfl, hq⟩ := hrel
    have HQ := Lib.hid hq
    clear hq
    by_cases hlt : k < l.length
    · obtain ⟨b, o, rfl, d1⟩ := HR.out.at_ hlt
      have HY : Hid (quoC l[k] = true → (l.take (k + 1)).all quoC = true) := Lib.hid (fun h => by rw [List.take_succ_eq_append_getElem hlt, List.all_append, HQ.out]; simpa using h)
      have HZ : Hid (quoC l[k] = false → quoB l = false) := Lib.hid (fun h => by
        unfold quoB
        rw [List.all_eq_false.2 ⟨l[k], List.getElem_mem hlt, by rw [h]; simp⟩]; rfl)
      have HT := Lib.hid (@quoC_of l[k])
      have HF := Lib.hid (@quoC_no l[k])
      generalize quoC l[k] = q at HY HZ HT HF
      generalize (l[k].toNat : Int) = x at d1 HT HF
      by_cases n1 : x < 32
      · have HX := Lib.hid (HZ.out (HF.out (.inl n1)))
        go_wp2
        go_ret
        exact ⟨by rw [HX.out]; rfl, rfl⟩
      by_cases n2 : x > 126
      · have HX := Lib.hid (HZ.out (HF.out (.inr (.inl n2))))
        go_wp2
        go_ret
        exact ⟨by rw [HX.out]; rfl, rfl⟩
      by_cases n3 : x = 34
      · have HX := Lib.hid (HZ.out (HF.out (.inr (.inr (.inl n3)))))
        subst n3
        clear n1 n2
        go_wp2
        go_ret
        exact ⟨by rw [HX.out]; rfl, rfl⟩
      by_cases n4 : x = 92
      · have HX := Lib.hid (HZ.out (HF.out (.inr (.inr (.inr n4)))))
        subst n4
        clear n1 n2 n3
        go_wp2
        go_ret
        exact ⟨by rw [HX.out]; rfl, rfl⟩
      have HX := Lib.hid (HY.out (HT.out n1 n2 n3 n4))
      have e3 : (x == 34) = false := by simpa using n3
      have e4 : (x == 92) = false := by simpa using n4
      have n1' : 32 ≤ x := by omega
      have n2' : x ≤ 126 := by omega
      clear n3 n4 n1 n2
      go_wp2
      go_round
      case rel => exact ⟨k + 1, by omega, by go_num, HX.out⟩
      case measure => simp [intOf]; omega
    · have HX : Hid (l.all quoC = true) := Lib.hid (by
        have h1 := HQ.out
        rw [List.take_of_length_le (by omega)] at h1
        exact h1)
      by_cases h0 : l = []
      · have hz : ((l.length : Int) == 0) = true := by rw [h0]; rfl
        have HX2 : Hid (quoB l = true) := Lib.hid (by rw [h0]; rfl)
        clear h0
        go_wp2
        go_ret
        exact ⟨by rw [HX2.out]; rfl, rfl⟩
      · have hpos : 0 < l.length := List.length_pos_iff.2 h0
        have hz : ((l.length : Int) == 0) = false := by simp; omega
        obtain ⟨b, o, rfl, d1⟩ := HR.out.at_ hpos
        obtain ⟨b', o', e', d2⟩ := HR.out.at_ (show l.length - 1 < l.length by omega)
        injection e' with e'; injection e' with e1 e2; subst e1; subst e2
        have HX2 : Hid (quoB l = (decide (l[0] ≠ 32) && decide (l[l.length - 1] ≠ 32))) := Lib.hid (by
          unfold quoB
          rw [HX.out, List.head?_eq_getElem?, List.getLast?_eq_getElem?, List.getElem?_eq_getElem hpos, List.getElem?_eq_getElem (show l.length - 1 < l.length by omega)]
          have : l.isEmpty = false := by simpa using h0
          rw [this]
          by_cases a : l[0] = 32 <;> by_cases b : l[l.length - 1] = 32 <;> simp [a, b])
        have b1 := byte_ne l[0] 32 (by omega)
        have b2 := byte_ne l[l.length - 1] 32 (by omega)
        have hm : IntKind.i64.wrap ((l.length : Int) - 1) = ((l.length - 1 : Nat) : Int) := by rw [IntWalk.i64_in _ (by omega)]; omega
        have hm2 : l.length - 1 < l.length := by omega
        rw [Nat.add_zero] at d1
        clear h0 hm hm2
        by_cases c1 : l[0] = 32
        · have HX3 : Hid (quoB l = false) := Lib.hid (by rw [HX2.out]; simp [c1])
          rw [decide_eq_true (show l[0] = UInt8.ofNat 32 from c1)] at b1
          have b1 : ((l[0].toNat : Int) != 32) = false := b1
          clear HX2 c1 b2 d2
          generalize (l[0].toNat : Int) = x at d1 b1
          go_wp2
          go_ret
          exact ⟨by rw [HX3.out]; rfl, rfl⟩
        rw [decide_eq_false (show ¬ l[0] = UInt8.ofNat 32 from c1)] at b1
        have b1 : ((l[0].toNat : Int) != 32) = true := b1
        by_cases c2 : l[l.length - 1] = 32
        · have HX3 : Hid (quoB l = false) := Lib.hid (by rw [HX2.out]; simp [c2])
          rw [decide_eq_true (show l[l.length - 1] = UInt8.ofNat 32 from c2)] at b2
          have b2 : ((l[l.length - 1].toNat : Int) != 32) = false := b2
          clear HX2 c1 c2
          generalize (l[0].toNat : Int) = x at d1 b1
          generalize (l[l.length - 1].toNat : Int) = y at d2 b2
          go_wp2
          go_ret
          exact ⟨by rw [HX3.out]; rfl, rfl⟩
        · have HX3 : Hid (quoB l = true) := Lib.hid (by rw [HX2.out]; simp [c1, c2])
          rw [decide_eq_false (show ¬ l[l.length - 1] = UInt8.ofNat 32 from c2)] at b2
          have b2 : ((l[l.length - 1].toNat : Int) != 32) = true := b2
          clear HX2 c1 c2
          generalize (l[0].toNat : Int) = x at d1 b1
          generalize (l[l.length - 1].toNat : Int) = y at d2 b2
          go_wp2
          go_ret
          exact ⟨by rw [HX3.out]; rfl, rfl⟩

def TailPost (w0 : World) (l : Tx) (w : World) (e : Ending) (w' : World) : Prop :=
  ∃ (v : Value) (ok : Bool), e = .returned (.tuple #[v, .bool ok]) ∧ Le w w' ∧ (∃ A m c, v = .slice A m c) ∧ if ok = true then ∃ kvs, sTail l = some kvs ∧ kvs.length ≤ 1099511627776 ∧ KrS w0 w' w.heap.size v kvs else sTail l = none
set_option maxRecDepth 4000 in
set_option maxHeartbeats 2000000 in
theorem tail_c (v : Value) (l : Tx) (w0 w : World) (h0 : Le w0 w) (hv : Bv w0 v l) (hl : l.length ≤ 1099511627000) : Calls Tryz.prog 73 #[v] w (TailPost w0 l w) := by
  have HV := Lib.hid hv
  have H0 := Lib.hid h0
  obtain ⟨A, cc, rfl, h1, h2, h4⟩ := hv
  have h3 := h4.1
  have HR := Lib.hid (h4.le h0)
  clear h4 h0
  by_cases he : l = []
  · have hz : ((l.length : Int) == 0) = true := by rw [he]; rfl
    have HX : Hid (sTail l = some []) := Lib.hid (by rw [he]; rfl)
    clear he
    go_enter Tryz.func73, Tryz.ntmps73
    go_wp2
    go_ret2
    exact ⟨_, true, rfl, Le.refl w, ⟨_, _, _, rfl⟩, by rw [if_pos rfl]; exact ⟨[], HX.out, by simp, KrS.nil _ _ _⟩⟩
  · have hpos : 0 < l.length := List.length_pos_iff.2 he
    have hz : ((l.length : Int) == 0) = false := by simp; omega
    obtain ⟨b, o, rfl, d1⟩ := HR.out.at_ hpos
    rw [Nat.add_zero] at d1
    have b1 := byte_ne l[0] 59 (by omega)
    have hh : l.head? = some l[0] := by rw [List.head?_eq_getElem?, List.getElem?_eq_getElem hpos]
    by_cases c1 : l[0] = 59
    · rw [decide_eq_true (show l[0] = UInt8.ofNat 59 from c1)] at b1
      have b1 : ((l[0].toNat : Int) != 59) = false := b1
      have HS : Hid (sTail l = (match pairsS (l.drop 1) 59 tokenL with | some kvs => if ipB kvs = true then some kvs else none | none => none)) := Lib.hid (by
        unfold sTail
        rw [if_neg he, if_pos (by rw [hh, c1])]
        rfl)
      clear c1 hh he
      generalize (l[0].toNat : Int) = x at d1 b1
      obtain ⟨v1, hv1, s1, s1'⟩ := cut_from HV.out (k := 1) (by omega) (z := 1) rfl
      have HV1 := Lib.hid hv1
      clear hv1
      go_enter Tryz.func73, Tryz.ntmps73
      go_wp2_with fail
      refine (pairsOf_c v1 (l.drop 1) 59 ⟨#[45, 46, 33, 37, 42, 95, 43, 96, 39, 126]⟩ w0 w H0.out HV1.out (by rw [List.length_drop]; omega) (by decide)).mono ?_
      rintro e w1 ⟨v2, ok, rfl, hle1, ⟨A2, m2, c2, rfl⟩, hp⟩
      have HLE1 := Lib.hid hle1
      clear hle1 s1 s1'
      cases ok
      · rw [if_neg (by simp)] at hp
        have HX : Hid (sTail l = none) := Lib.hid (by rw [HS.out, show tokenL = bs ⟨#[45, 46, 33, 37, 42, 95, 43, 96, 39, 126]⟩ from rfl, hp])
        clear hp
        go_wp2
        go_ret2
        exact ⟨_, false, rfl, HLE1.out, ⟨_, _, _, rfl⟩, by rw [if_neg (by simp)]; exact HX.out⟩
      · rw [if_pos rfl] at hp
        obtain ⟨kvs, hp1, hp2, hp3⟩ := hp
        have HX : Hid (sTail l = if ipB kvs = true then some kvs else none) := Lib.hid (by rw [HS.out, show tokenL = bs ⟨#[45, 46, 33, 37, 42, 95, 43, 96, 39, 126]⟩ from rfl, hp1])
        have HK := Lib.hid hp3
        have HP2 := Lib.hid hp2
        have hc := isPairs_c (fun _ => True) (.slice A2 m2 c2) kvs w1 (hp3.kq (H0.out.trans HLE1.out) hp2)
        have HC := Lib.hid hc
        clear hp1 hp2 hp3 hc
        go_wp2_with fail
        refine HC.out.mono ?_
        rintro e w2 ⟨rfl, hle2⟩
        have HLE2 := Lib.hid (HLE1.out.trans hle2)
        have HK2 := Lib.hid (HK.out.le hle2)
        clear hle2
        rcases hip : ipB kvs with _ | _
        · rw [hip] at HX
          go_wp2
          go_ret2
          exact ⟨_, false, rfl, HLE2.out, ⟨_, _, _, rfl⟩, by rw [if_neg (by simp)]; exact HX.out⟩
        · rw [hip] at HX
          go_wp2
          go_ret2
          exact ⟨_, true, rfl, HLE2.out, ⟨_, _, _, rfl⟩, by rw [if_pos rfl]; exact ⟨kvs, HX.out, HP2.out, HK2.out⟩⟩
    · rw [decide_eq_false (show ¬ l[0] = UInt8.ofNat 59 from c1)] at b1
      have b1 : ((l[0].toNat : Int) != 59) = true := b1
      have HX : Hid (sTail l = none) := Lib.hid (by
        unfold sTail
        rw [if_neg he, if_neg (by rw [hh]; simpa using c1)])
      clear c1 hh he
      generalize (l[0].toNat : Int) = x at d1 b1
      go_enter Tryz.func73, Tryz.ntmps73
      go_wp2
      go_ret2
      exact ⟨_, false, rfl, Le.refl w, ⟨_, _, _, rfl⟩, by rw [if_neg (by simp)]; exact HX.out⟩
end Go.Proofs.YteedhaenbamiaaaGreatDoor
