/- Contract: the specification's reader of addresses. -/
import Derived.Test.YteedhaenbamiaaaGreatDoorSAe
import Derived.Deep.Cut
import Derived.Deep.CutBlock
set_option linter.unusedVariables false
set_option linter.unusedSimpArgs false
namespace Go.Proofs.YteedhaenbamiaaaGreatDoor
open Go.RowKit

theorem sAddr_none {l : Tx} (h : ¬ ixOf l 60 < l.length) : sAddr l = sBare l := by unfold sAddr; rw [if_neg h]
theorem sAddr_end {l : Tx} {k : Nat} (hk : ixOf l 60 = k) (hkl : k < l.length) (h : ¬ (ixOf l 62 < l.length ∧ k ≤ ixOf l 62)) : sAddr l = .open_ := by
  unfold sAddr; rw [hk, if_pos hkl, if_neg h]
theorem sAddr_in {l : Tx} {k e : Nat} (hk : ixOf l 60 = k) (hkl : k < l.length) (he : ixOf l 62 = e) (hel : e < l.length) (hke : k ≤ e) : sAddr l =
    match sName (l.take k) with
    | none => .open_
    | some n =>
      match sUri ((l.take e).drop (k + 1)) with
      | .val u => (match sTail (l.drop (e + 1)) with | some kvs => if u.wild = true then .open_ else .val n u kvs | none => .open_)
      | _ => .open_ := by
  unfold sAddr; rw [hk, he, if_pos hkl, if_pos ⟨hel, hke⟩]; rfl
theorem sBare_val {l n : Tx} {u : PU} {kvs : KVs} (h : sBare l = .val n u kvs) : n = [] ∧ kvs = [] ∧ sUri l = .val u := by
  unfold sBare at h
  split at h
  · split at h
    · rename_i u' hu
      split at h
      · cases h
      · injection h with h1 h2 h3
        exact ⟨h1.symm, h3.symm, by rw [hu, h2]⟩
    · cases h
  · cases h
theorem ix_apart {l : Tx} {k e : Nat} (hk : ixOf l 60 = k) (hkl : k < l.length) (he : ixOf l 62 = e) (hel : e < l.length) : k ≠ e := by
  rintro rfl
  have a1 := List.findIdx_getElem (p := (· == (60 : UInt8))) (xs := l) (w := by rw [show List.findIdx (· == (60 : UInt8)) l = k from hk]; exact hkl)
  have a2 := List.findIdx_getElem (p := (· == (62 : UInt8))) (xs := l) (w := by rw [show List.findIdx (· == (62 : UInt8)) l = k from he]; exact hkl)
  simp only [beq_iff_eq] at a1 a2
  have e1 : l[List.findIdx (· == (60 : UInt8)) l]'(by rw [show List.findIdx (· == (60 : UInt8)) l = k from hk]; exact hkl) = l[k] := by congr 1
  have e2 : l[List.findIdx (· == (62 : UInt8)) l]'(by rw [show List.findIdx (· == (62 : UInt8)) l = k from he]; exact hkl) = l[k] := by congr 1
  rw [e1] at a1
  rw [e2, a1] at a2
  exact absurd a2 (by decide)
theorem sName_at {l : Tx} {k : Nat} (hk : k ≤ l.length) (h0 : 0 < k) : sName (l.take k) =
    if l[0]'(by omega) = 34 ∧ 3 < k ∧ l[k - 1]'(by omega) = 32 ∧ l[k - 2]'(by omega) = 34 ∧ quoB ((l.take (k - 2)).drop 1) = true then some ((l.take (k - 2)).drop 1)
    else if l[k - 1]'(by omega) = 32 ∧ wordsB (l.take (k - 1)) = true then some (l.take (k - 1)) else none := by
  have hl : (l.take k).length = k := by rw [List.length_take]; omega
  have hne : l.take k ≠ [] := by intro h; rw [h] at hl; simp at hl; omega
  have e1 : (l.take k).head? = some (l[0]'(by omega)) := by rw [List.head?_eq_getElem?, List.getElem?_eq_getElem (by omega)]; simp
  have e2 : (l.take k).getLast? = some (l[k - 1]'(by omega)) := by rw [List.getLast?_eq_getElem?, List.getElem?_eq_getElem (by omega)]; simp [hl]
  have e3 : (l.take k)[k - 2]? = some (l[k - 2]'(by omega)) := by rw [List.getElem?_eq_getElem (by omega)]; simp
  have t1 : (l.take k).take (k - 2) = l.take (k - 2) := by rw [List.take_take]; congr 1; omega
  have t2 : (l.take k).take (k - 1) = l.take (k - 1) := by rw [List.take_take]; congr 1; omega
  unfold sName
  rw [if_neg hne, hl, e1, e2, e3, t1, t2]
  simp only [Option.some.injEq]
/-- 's[lo:hi]' -/
theorem cut_mid {w : World} {A : Option Addr} {n c : Nat} {l : Tx} (h : Bv w (.slice A n c) l) {lo hi : Nat} (h1 : lo ≤ hi) (h2 : hi ≤ l.length) {z1 z2 : Int} (e1 : z1 = lo) (e2 : z2 = hi) :
    ∃ v, Bv w v ((l.take hi).drop lo) ∧ (∀ W, (Instr.slice 22 (.slice A n c) (some (.int .i64 z1)) (some (.int .i64 z2)) none).run Tryz.prog W = .ok v W) ∧
      (∀ W, (Instr.sliceAt 22 (.slice A n c) (some (.int .i64 z1)) (some (.int .i64 z2)) none).run Tryz.prog W = .ok v W) := by
  obtain ⟨A', c', e, h3, _⟩ := id h
  injection e with e3 e4 e5
  subst e3; subst e4; subst e5; subst e1; subst e2
  have hb := cut_to h h2 (m := c) (by omega) (Nat.le_refl _)
  have hl : (l.take hi).length = hi := by rw [List.length_take]; omega
  have hb' : Bv w (.slice A (l.take hi).length c) (l.take hi) := by rw [hl]; exact hb
  have hf := bv_from hb' (k := lo) (by omega)
  rw [hl] at hf
  have h5 : hi ≤ c := by omega
  have q : ∀ W, (Instr.slice 22 (.slice A l.length c) (some (.int .i64 (lo : Int))) (some (.int .i64 (hi : Int))) none).run Tryz.prog W = .ok (.slice (if c = lo then A else A.map (·.add (lo * 1))) (hi - lo) (c - lo)) W := fun W => by go_simp
  exact ⟨_, hf, q, fun W => by go_simp⟩
/-- 's[lo:hi:hi]' -/
theorem cut_mid3 {w : World} {A : Option Addr} {n c : Nat} {l : Tx} (h : Bv w (.slice A n c) l) {lo hi : Nat} (h1 : lo ≤ hi) (h2 : hi ≤ l.length) {z1 z2 : Int} (e1 : z1 = lo) (e2 : z2 = hi) :
    ∃ v, Bv w v ((l.take hi).drop lo) ∧ (∀ W, (Instr.slice 22 (.slice A n c) (some (.int .i64 z1)) (some (.int .i64 z2)) (some (.int .i64 z2))).run Tryz.prog W = .ok v W) ∧
      (∀ W, (Instr.sliceAt 22 (.slice A n c) (some (.int .i64 z1)) (some (.int .i64 z2)) (some (.int .i64 z2))).run Tryz.prog W = .ok v W) := by
  obtain ⟨A', c', e, h3, _⟩ := id h
  injection e with e3 e4 e5
  subst e3; subst e4; subst e5; subst e1; subst e2
  have hb := cut_to h h2 (m := hi) (by omega) (by omega)
  have hl : (l.take hi).length = hi := by rw [List.length_take]; omega
  have hb' : Bv w (.slice A (l.take hi).length hi) (l.take hi) := by rw [hl]; exact hb
  have hf := bv_from hb' (k := lo) (by omega)
  rw [hl] at hf
  have h5 : hi ≤ c := by omega
  have q : ∀ W, (Instr.slice 22 (.slice A l.length c) (some (.int .i64 (lo : Int))) (some (.int .i64 (hi : Int))) (some (.int .i64 (hi : Int)))).run Tryz.prog W = .ok (.slice (if hi = lo then A else A.map (·.add (lo * 1))) (hi - lo) (hi - lo)) W := fun W => by go_simp
  exact ⟨_, hf, q, fun W => by go_simp⟩
/-- what is left where the reader gives up: the result's row is noughts again -/
theorem sa_fail {l : Tx} {w W WZ : World} (hs : sAddr l = .open_) (hb : PB w W) (hz : WZ.heap[w.heap.size]? = some (.cells zrow 36 (0, 0))) (hk : Kp w.heap.size W WZ) :
    SAPost (sAddr l) w (.returned (.tuple #[.slice none 0 0, UV.nil.val, .slice none 0 0, .int .i64 (-2)])) WZ := by
  rw [hs]
  exact ⟨_, _, UV.nil, _, rfl, Below.trans hb.1 (hk.below (Nat.le_refl _) hb.1.size), zrow_one, rfl⟩

theorem sTail_key {l : Tx} {kvs : KVs} (h : sTail l = some kvs) : ∀ x ∈ kvs, x.1 ≠ [] := by
  unfold sTail at h
  split at h
  · injection h with h; subst h; simp
  · split at h
    · split at h
      · rename_i hp
        split at h
        · injection h with h; subst h; exact pairsS_key hp
        · cases h
      · cases h
    · cases h
def saS (b c : Nat) (nv pv : Value) (row : Array Value) : Nat → Value → World → Prop
  | 2, v, _ => v = nv
  | 3, v, _ => v = .pointer (some ⟨b, 0, none⟩)
  | 4, v, _ => v = pv
  | 5, v, _ => v = .int .i64 0
  | 8, v, _ => v = nv
  | 10, v, _ => v = .pointer (some ⟨c, 0, none⟩)
  | 12, v, _ => v = pv
  | 127, v, _ => v = nv
  | 128, v, _ => v = .agg row
  | 129, v, _ => v = pv
  | _, _, _ => True
theorem saS_any (b c : Nat) (nv pv : Value) (row : Array Value) (t : Nat) (v : Value) (w w' : World) (h : saS b c nv pv row t v w) : saS b c nv pv row t v w' := by
  unfold saS at h ⊢
  split at h <;> exact h
set_option maxRecDepth 8000 in
set_option maxHeartbeats 16000000 in
theorem saddr_c (v : Value) (l : Tx) (w : World) (hv : Bv w v l) (hl : l.length ≤ 1099511627000) :
    Calls Tryz.prog 34 #[v] w (SAPost (sAddr l) w) := by
  have HV := Lib.hid hv
  obtain ⟨A, cc, rfl, h1, h2, h4⟩ := hv
  have h3 := h4.1
  clear h4
  go_enter Tryz.func34, Tryz.ntmps34
  go_upto_region 1 with fail
  have HPB : Hid (PB w (w.alloc (Obj.cells zrow 36))) := Lib.hid ⟨(Le.refl w).alloc _, heap_alloc_new w _⟩
  have hzr : zrow = #[(.slice none 0 0), (.slice none 0 0), .bool false, .bool false, (.slice none 0 0), (.slice none 0 0), (.slice none 0 0), .int .i64 0, (.slice none 0 0), (.slice none 0 0)] := rfl
  rw [hzr] at HPB
  generalize w.alloc (Obj.cells #[(.slice none 0 0), (.slice none 0 0), .bool false, .bool false, (.slice none 0 0), (.slice none 0 0), (.slice none 0 0), .int .i64 0, (.slice none 0 0), (.slice none 0 0)] 36) = W0 at HPB ⊢
  clear hzr
  have CI := Lib.hid (indexOf_c _ l 60 W0 (HV.out.le HPB.out.1))
  go_wp2_with fail
  refine CI.out.mono ?_
  rintro e w' ⟨rfl, rfl⟩
  clear CI
  rcases ixI_cases l 60 with ⟨k, e1, hk, e2⟩ | ⟨e1, e2⟩
  case inr =>
    rw [e1]
    have HS := Lib.hid (sAddr_none e2)
    clear e1 e2
    go_wp2_with fail
    refine (bare_c _ l W0 (HV.out.le HPB.out.1) hl).mono ?_
    rintro e w1 ⟨nv, pv, x, kd, rfl, hle1, hone, hm⟩
    have HM := Lib.hid hm
    have HONE := Lib.hid hone
    have HPB1 := Lib.hid (HPB.out.to hle1)
    clear hle1 hm hone HPB
    go_wp2_with (refine wpList_store_rowG rfl 36 (.tmp 3) (.tmp 21) rfl w.heap.size x.row rfl rfl 36 zrow HPB1.out.2 spu_size rfl HONE.out ?_)
    intro WZ hz hkz
    have HLZ : Hid (Le w WZ) := Lib.hid (Below.trans HPB1.out.1 (hkz.below (Nat.le_refl _) HPB1.out.1.size))
    have HZ := Lib.hid hz
    have HKZ := Lib.hid hkz
    clear hz hkz
    go_wp2
    refine bodyPost_ret (v := .tuple #[nv, x.val, pv, .int .i64 kd]) (sa_results rfl HZ.out rfl rfl rfl rfl) rfl ⟨_, _, x, _, rfl, HLZ.out, HONE.out, ?_⟩
    rw [HS.out]
    have hm := HM.out
    rcases hb : sBare l with _ | ⟨n, u, kvs⟩
    · rw [hb] at hm
      exact hm
    · rw [hb] at hm
      obtain ⟨m1, m2, m3, m4⟩ := hm
      obtain ⟨rfl, rfl, hu⟩ := sBare_val hb
      have hkey := sUri_key hu
      have hkp : ∀ g, g ≠ w.heap.size → g < w1.heap.size → WZ.heap[g]? = w1.heap[g]? := fun g hne hg => HKZ.out.block g hg (fun e => hne (by injection e))
      exact ⟨m1, m2.keepZ HPB1.out.2 hkp, m3.keepZ HPB1.out.2 hkp hkey.1 hkey.2, m4.keepZ HPB1.out.2 hkp (by simp)⟩
  rw [e1]
  have CI := Lib.hid (indexOf_c _ l 62 W0 (HV.out.le HPB.out.1))
  go_wp2_with fail
  refine CI.out.mono ?_
  rintro e w' ⟨rfl, rfl⟩
  clear CI
  rcases ixI_cases l 62 with ⟨e, e3, he, e4⟩ | ⟨e3, e4⟩
  case inr =>
    rw [e3]
    have HS := Lib.hid (sAddr_end e2 hk (fun h => e4 h.1))
    clear e1 e2 e3 e4
    go_wp2_with (first | refine wpList_build0 rfl 36 rfl (some 29) rfl zrow su_built ?_ | refine wpList_store_rowG rfl 36 (.tmp 3) (.tmp 29) rfl w.heap.size zrow rfl rfl 36 zrow HPB.out.2 spu_size rfl zrow_one ?_)
    intro WZ hz hkz
    have HZ := Lib.hid hz
    have HKZ := Lib.hid hkz
    clear hz hkz
    go_wp2
    exact bodyPost_ret (sa_results rfl HZ.out rfl rfl rfl rfl) rfl (sa_fail HS.out HPB.out HZ.out HKZ.out)
  rw [e3]
  by_cases hke : e < k
  · have HS := Lib.hid (sAddr_end e2 hk (fun h => by have := h.2; omega))
    have hke' : (e : Int) < k := by omega
    clear e1 e2 e3 e4
    go_wp2_with (first | refine wpList_build0 rfl 36 rfl (some 29) rfl zrow su_built ?_ | refine wpList_store_rowG rfl 36 (.tmp 3) (.tmp 29) rfl w.heap.size zrow rfl rfl 36 zrow HPB.out.2 spu_size rfl zrow_one ?_)
    intro WZ hz hkz
    have HZ := Lib.hid hz
    have HKZ := Lib.hid hkz
    clear hz hkz
    go_wp2
    exact bodyPost_ret (sa_results rfl HZ.out rfl rfl rfl rfl) rfl (sa_fail HS.out HPB.out HZ.out HKZ.out)
  have hke' : (k : Int) ≤ e := by omega
  have hne := ix_apart e2 hk e4 he
  have HS := Lib.hid (sAddr_in e2 hk e4 he (by omega))
  clear e1 e2 e3 e4
  have HNM := Lib.hid (fun h => sName_at (l := l) (k := k) (by omega) h)
  go_upto_block 0 with fail
  go_cut [8] from 36 (fun s8 wx => ∃ n, sName (l.take k) = some n ∧ Bv wx s8 n ∧ PB w wx)
  case first =>
    by_cases h0 : k = 0
    · subst h0
      have HB0 := Lib.hid (cut_to HV.out (k := 0) (m := 0) (by omega) (by omega) (by omega))
      go_wp2
      go_meet
      case rel => exact ⟨[], by rw [List.take_zero]; unfold sName; rw [if_pos rfl], by have h := HB0.out.le HPB.out.1; rw [List.take_zero] at h; exact h, HPB.out⟩
    have hpos : 0 < k := by omega
    have hz : ((k : Int) == 0) = false := by simp; omega
    have HSN := Lib.hid (HNM.out hpos)
    have HN := Lib.hid (cut_to (HV.out.le HPB.out.1) (k := k) (m := k) (by omega) (by omega) (by omega))
    have t1 : (l.take k).take (k - 2) = l.take (k - 2) := by rw [List.take_take]; congr 1; omega
    have t2 : (l.take k).take (k - 1) = l.take (k - 1) := by rw [List.take_take]; congr 1; omega
    have hlk : (l.take k).length = k := by rw [List.length_take]; omega
    have T1 := Lib.hid t1
    have T2 := Lib.hid t2
    have HLK := Lib.hid hlk
    clear t1 t2 hlk h0
    obtain ⟨b, o, hA, d1⟩ := (HV.out.le HPB.out.1).at' (show 0 < l.length by omega)
    subst hA
    rw [Nat.add_zero] at d1
    obtain ⟨b', o', e', d2⟩ := (HV.out.le HPB.out.1).at' (show k - 1 < l.length by omega)
    injection e' with e'; injection e' with e1 e2; subst e1; subst e2
    obtain ⟨b', o', e', d3⟩ := (HV.out.le HPB.out.1).at' (show k - 2 < l.length by omega)
    injection e' with e'; injection e' with e1 e2; subst e1; subst e2
    obtain ⟨x0, hx0⟩ : ∃ x, x = l[0]'(by omega) := ⟨_, rfl⟩
    obtain ⟨x1, hx1⟩ : ∃ x, x = l[k - 1]'(by omega) := ⟨_, rfl⟩
    obtain ⟨x2, hx2⟩ : ∃ x, x = l[k - 2]'(by omega) := ⟨_, rfl⟩
    rw [← hx0] at d1
    rw [← hx1] at d2
    rw [← hx2] at d3
    rw [← hx0, ← hx1, ← hx2] at HSN
    clear hx0 hx1 hx2
    go_upto_region 11 with fail
    go_cut [40] from 36 (fun s40 wx => ∃ q : Bool, s40 = .bool q ∧ W0 = wx ∧ (q = true ↔ x0 = 34 ∧ 3 < k ∧ x1 = 32 ∧ x2 = 34 ∧ quoB ((l.take (k - 2)).drop 1) = true))
    case first =>
      by_cases c1 : x0 = 34
      case neg =>
        have b1 : ((x0.toNat : Int) == 34) = false := by simpa using fun h => c1 (u8_of (n := 34) h (by decide))
        have HC := Lib.hid c1
        clear c1
        generalize (x0.toNat : Int) = y0 at d1 b1
        go_wp2
        go_meet
        case rel => exact ⟨false, rfl, rfl, by simp [HC.out]⟩
      have b1 : ((x0.toNat : Int) == 34) = true := by rw [c1]; rfl
      have HC1 := Lib.hid c1
      clear c1
      generalize (x0.toNat : Int) = y0 at d1 b1
      by_cases c2 : 3 < k
      case neg =>
        have b2 : (k : Int) ≤ 3 := by omega
        have HC := Lib.hid c2
        clear c2
        go_wp2
        go_meet
        case rel => exact ⟨false, rfl, rfl, by simp [HC.out]⟩
      have b2 : (3 : Int) < k := by omega
      have HC2 := Lib.hid c2
      by_cases c3 : x1 = 32
      case neg =>
        have b3 : ((x1.toNat : Int) == 32) = false := by simpa using fun h => c3 (u8_of (n := 32) h (by decide))
        have HC := Lib.hid c3
        clear c3
        generalize (x1.toNat : Int) = y1 at d2 b3
        go_wp2
        go_meet
        case rel => exact ⟨false, rfl, rfl, by simp [HC.out]⟩
      have b3 : ((x1.toNat : Int) == 32) = true := by rw [c3]; rfl
      have HC3 := Lib.hid c3
      clear c3
      generalize (x1.toNat : Int) = y1 at d2 b3
      by_cases c4 : x2 = 34
      case neg =>
        have b4 : ((x2.toNat : Int) == 34) = false := by simpa using fun h => c4 (u8_of (n := 34) h (by decide))
        have HC := Lib.hid c4
        clear c4
        generalize (x2.toNat : Int) = y2 at d3 b4
        go_wp2
        go_meet
        case rel => exact ⟨false, rfl, rfl, by simp [HC.out]⟩
      have b4 : ((x2.toNat : Int) == 34) = true := by rw [c4]; rfl
      have HC4 := Lib.hid c4
      clear c4
      generalize (x2.toNat : Int) = y2 at d3 b4
      obtain ⟨v5, hb5, q1, q2⟩ := cut_mid HN.out (lo := 1) (hi := k - 2) (z1 := 1) (z2 := (k : Int) - 2) (by omega) (by rw [HLK.out]; omega) rfl (by omega)
      rw [T1.out] at hb5
      obtain ⟨r, hr⟩ : ∃ r, quoB ((l.take (k - 2)).drop 1) = r := ⟨_, rfl⟩
      have CQ := isQuot_c v5 _ W0 hb5
      rw [hr] at CQ
      have CI := Lib.hid CQ
      have HR := Lib.hid hr
      clear hb5 CQ hr
      go_wp2_with (go_at_call 71; refine CI.out.mono ?_; rintro e w' ⟨rfl, rfl⟩)
      go_meet
      case rel => exact ⟨r, rfl, rfl, by rw [HR.out]; simp [HC1.out, HC2.out, HC3.out, HC4.out]⟩
    case rest =>
      obtain ⟨q, rfl, rfl, hq⟩ := hcut
      rcases q with _ | _
      case true =>
        have hq := hq.1 rfl
        rw [if_pos hq] at HSN
        have b2 : (3 : Int) < k := by have := hq.2.1; omega
        obtain ⟨v5, hb5, q1, q2⟩ := cut_mid3 HN.out (lo := 1) (hi := k - 2) (z1 := 1) (z2 := (k : Int) - 2) (by omega) (by rw [HLK.out]; omega) rfl (by omega)
        rw [T1.out] at hb5
        have HB5 := Lib.hid hb5
        clear hb5 hq
        go_wp2
        go_meet
        case rel => exact ⟨_, HSN.out, HB5.out, HPB.out⟩
      have hq' : ¬ (x0 = 34 ∧ 3 < k ∧ x1 = 32 ∧ x2 = 34 ∧ quoB ((l.take (k - 2)).drop 1) = true) := fun h => by cases hq.2 h
      rw [if_neg hq'] at HSN
      clear hq hq' d1 d3
      go_upto_region 13 with fail
      go_cut [78] from 36 (fun s78 wx => ∃ q : Bool, s78 = .bool q ∧ Le W0 wx ∧ (q = true ↔ x1 = 32 ∧ wordsB (l.take (k - 1)) = true))
      case first =>
        by_cases c3 : x1 = 32
        case neg =>
          have b3 : ((x1.toNat : Int) == 32) = false := by simpa using fun h => c3 (u8_of (n := 32) h (by decide))
          have HC := Lib.hid c3
          clear c3
          generalize (x1.toNat : Int) = y1 at d2 b3
          go_wp2
          go_meet
          case rel => exact ⟨false, rfl, Le.refl _, by simp [HC.out]⟩
        have b3 : ((x1.toNat : Int) == 32) = true := by rw [c3]; rfl
        have HC3 := Lib.hid c3
        clear c3
        generalize (x1.toNat : Int) = y1 at d2 b3
        have hb5 := cut_to HN.out (k := k - 1) (m := k) (by rw [HLK.out]; omega) (by omega) (by omega)
        rw [T2.out] at hb5
        obtain ⟨r, hr⟩ : ∃ r, wordsB (l.take (k - 1)) = r := ⟨_, rfl⟩
        have CQ := isWords_c _ _ W0 W0 (Le.refl _) hb5 (by rw [List.length_take]; omega)
        rw [hr] at CQ
        have CI := Lib.hid CQ
        have HR := Lib.hid hr
        clear hb5 CQ hr
        go_wp2_with (go_at_call 72; refine CI.out.mono ?_; rintro e w' ⟨rfl, hlw⟩)
        have HLW := Lib.hid hlw
        clear hlw
        go_wp2
        go_meet
        case rel => exact ⟨r, rfl, HLW.out, by rw [HR.out]; simp [HC3.out]⟩
      case rest =>
        obtain ⟨q, rfl, hlw, hq⟩ := hcut
        have HPBc := Lib.hid (HPB.out.to hlw)
        have HLW := Lib.hid hlw
        clear hlw
        rcases q with _ | _
        case true =>
          have hq := hq.1 rfl
          rw [if_pos hq] at HSN
          have hb5 := cut_to HN.out (k := k - 1) (m := k - 1) (by rw [HLK.out]; omega) (by omega) (by omega)
          rw [T2.out] at hb5
          have HB5 := Lib.hid hb5
          clear hb5 hq
          go_wp2
          go_meet
          case rel => exact ⟨_, HSN.out, HB5.out.le HLW.out, HPBc.out⟩
        have hq' : ¬ (x1 = 32 ∧ wordsB (l.take (k - 1)) = true) := fun h => by cases hq.2 h
        rw [if_neg hq'] at HSN
        have hx := HS.out
        rw [HSN.out] at hx
        have HX : Hid (sAddr l = .open_) := Lib.hid hx
        clear hx hq hq'
        go_wp2_with (first | refine wpList_build0 rfl 36 rfl (some 36) rfl zrow su_built ?_ | refine wpList_store_rowG rfl 36 (.tmp 3) (.tmp 36) rfl w.heap.size zrow rfl rfl 36 zrow HPBc.out.2 spu_size rfl zrow_one ?_)
        intro WZ hz hkz
        have HZ := Lib.hid hz
        have HKZ := Lib.hid hkz
        clear hz hkz
        go_wp2
        exact bodyPost_ret (sa_results rfl HZ.out rfl rfl rfl rfl) rfl (sa_fail HX.out HPBc.out HZ.out HKZ.out)
  case rest =>
    obtain ⟨n, hn, hbn, hpb⟩ := hcut
    have hs := HS.out
    rw [hn] at hs
    have HSA : Hid (sAddr l = (match sUri ((l.take e).drop (k + 1)) with
      | .val u => (match sTail (l.drop (e + 1)) with | some kvs => if u.wild = true then .open_ else .val n u kvs | none => .open_)
      | _ => .open_)) := Lib.hid hs
    have HBN := Lib.hid hbn
    have HPBc := Lib.hid hpb
    obtain ⟨An, mn, cn, rfl⟩ : ∃ A m c, u8 = .slice A m c := by obtain ⟨A, c, rfl, _⟩ := hbn; exact ⟨_, _, _, rfl⟩
    obtain ⟨v5, hb5, q1, q2⟩ := cut_mid3 (HV.out.le hpb.1) (lo := k + 1) (hi := e) (z1 := (k : Int) + 1) (z2 := (e : Int)) (by omega) (by omega) (by omega) rfl
    have HB5 := Lib.hid hb5
    clear hn hbn hpb hs hb5 HNM HS HPB
    go_wp2_with fail
    refine (parse_c v5 _ wc HB5.out (by rw [List.length_drop, List.length_take]; omega)).mono ?_
    rintro e5 w1 ⟨x, kd, rfl, hle1, hone, hm⟩
    have HM := Lib.hid hm
    have HONE := Lib.hid hone
    have HPB1 := Lib.hid (HPBc.out.to hle1)
    have HBN1 := Lib.hid (HBN.out.le hle1)
    clear hle1 hm hone q1 q2 HPBc HBN HB5
    go_upto_region 16 with (first | refine wpList_store_rowG rfl 36 (.tmp 10) (.tmp 106) rfl w1.heap.size x.row rfl rfl 36 zrow (heap_alloc_new w1 _) spu_size rfl HONE.out ?_)
    intro W2 hz2 hk2
    have hle2 : Le w1 W2 := Below.trans ((Le.refl w1).alloc _) (hk2.below (Nat.le_refl _) ((Le.refl w1).alloc _).size)
    have HPB2 := Lib.hid (HPB1.out.to hle2)
    have HLE2 := Lib.hid hle2
    have HZ2 := Lib.hid hz2
    have HBN2 := Lib.hid (HBN1.out.le hle2)
    obtain ⟨v6, hb6, q3, q4⟩ := cut_from (HV.out.le HPB2.out.1) (k := e + 1) (z := (e : Int) + 1) (by omega) (by omega)
    have HB6 := Lib.hid hb6
    clear hz2 hk2 hle2 hb6 HBN1
    go_wp2_with fail
    refine (tail_c v6 _ W2 W2 (Le.refl _) HB6.out (by rw [List.length_drop]; omega)).mono ?_
    rintro e6 w3 ⟨pv, ok, rfl, hle3, ⟨A3, m3, c3, rfl⟩, hp⟩
    have g2 : w3.cell? ⟨w1.heap.size, 2, none⟩ = some (.bool x.wild) := cell_cells (hle3.heap HZ2.out) 2
    have HPB3 := Lib.hid (HPB2.out.to hle3)
    have HP := Lib.hid hp
    have HLE3 := Lib.hid hle3
    have HZ3 := Lib.hid (hle3.heap HZ2.out)
    have HBN3 := Lib.hid (HBN2.out.le hle3)
    clear hle3 hp q3 q4 HB6 HBN2
    by_cases hk0 : kd = 0
    case neg =>
      have HX : Hid (sAddr l = .open_) := Lib.hid (by
        rw [HSA.out]
        have h := HM.out
        rcases hs : sUri ((l.take e).drop (k + 1)) with _ | _ | u
        all_goals (simp only [hs] at h; first | rfl | exact (hk0 h.1).elim))
      have hkb : (kd != 0) = true := by simpa using hk0
      clear hk0 g2
      go_wp2_with (first | refine wpList_build0 rfl 36 rfl (some 126) rfl zrow su_built ?_ | refine wpList_store_rowG rfl 36 (.tmp 3) (.tmp 126) rfl w.heap.size zrow rfl rfl 36 zrow HPB3.out.2 spu_size rfl zrow_one ?_)
      intro WZ hz hkz
      have HZ := Lib.hid hz
      have HKZ := Lib.hid hkz
      clear hz hkz
      go_wp2
      exact bodyPost_ret (sa_results rfl HZ.out rfl rfl rfl rfl) rfl (sa_fail HX.out HPB3.out HZ.out HKZ.out)
    subst hk0
    obtain ⟨u, hu, hx⟩ : ∃ u, sUri ((l.take e).drop (k + 1)) = .val u ∧ Uq (fun _ => True) w1 x u := by
      have h := HM.out
      rcases hs : sUri ((l.take e).drop (k + 1)) with _ | _ | u
      all_goals (rw [hs] at h; first | exact ⟨_, rfl, h.2⟩ | (exfalso; simp at h))
    have HSU : Hid (sAddr l = (match sTail (l.drop (e + 1)) with | some kvs => if u.wild = true then .open_ else .val n u kvs | none => .open_)) := Lib.hid (by rw [HSA.out, hu])
    have HU := Lib.hid hx
    have HKEY := Lib.hid (sUri_key hu)
    rw [hx.wild] at g2
    rcases hw : u.wild with _ | _
    case true =>
      rw [hw] at g2 HSU
      have HX : Hid (sAddr l = .open_) := Lib.hid (by rw [HSU.out]; cases sTail (l.drop (e + 1)) <;> rfl)
      clear hw hu hx
      go_wp2_with (first | refine wpList_build0 rfl 36 rfl (some 126) rfl zrow su_built ?_ | refine wpList_store_rowG rfl 36 (.tmp 3) (.tmp 126) rfl w.heap.size zrow rfl rfl 36 zrow HPB3.out.2 spu_size rfl zrow_one ?_)
      intro WZ hz hkz
      have HZ := Lib.hid hz
      have HKZ := Lib.hid hkz
      clear hz hkz
      go_wp2
      exact bodyPost_ret (sa_results rfl HZ.out rfl rfl rfl rfl) rfl (sa_fail HX.out HPB3.out HZ.out HKZ.out)
    rw [hw] at g2 HSU
    clear hw hu hx
    cases ok
    case false =>
      have hp := HP.out
      rw [if_neg (by simp)] at hp
      have HX : Hid (sAddr l = .open_) := Lib.hid (by rw [HSU.out, hp])
      clear hp
      go_wp2_with (first | refine wpList_build0 rfl 36 rfl (some 126) rfl zrow su_built ?_ | refine wpList_store_rowG rfl 36 (.tmp 3) (.tmp 126) rfl w.heap.size zrow rfl rfl 36 zrow HPB3.out.2 spu_size rfl zrow_one ?_)
      intro WZ hz hkz
      have HZ := Lib.hid hz
      have HKZ := Lib.hid hkz
      clear hz hkz
      go_wp2
      exact bodyPost_ret (sa_results rfl HZ.out rfl rfl rfl rfl) rfl (sa_fail HX.out HPB3.out HZ.out HKZ.out)
    obtain ⟨kvs, hp1, hp2, hp3⟩ : ∃ kvs, sTail (l.drop (e + 1)) = some kvs ∧ kvs.length ≤ 1099511627776 ∧ KrS W2 w3 W2.heap.size (.slice A3 m3 c3) kvs := by
      have hp := HP.out
      rw [if_pos rfl] at hp
      exact hp
    have HX : Hid (sAddr l = .val n u kvs) := Lib.hid (by rw [HSU.out, hp1]; rfl)
    have HTK := Lib.hid (sTail_key hp1)
    have HKQ := Lib.hid (hp3.kq HLE3.out hp2)
    clear hp1 hp2 hp3 HP
    go_upto_region 19 with fail
    have hm : (Tryz.prog).follows .mixedOrders = true := by kernel_rfl
    have hne : w1.heap.size ≠ w.heap.size := by have := lt_of_heap HPB1.out.2; omega
    refine wp_region_grow (saS w.heap.size w1.heap.size (.slice An mn cn) (.slice A3 m3 c3) x.row) (fun _ W => W.heap[w.heap.size]? = some (.cells x.row 36 (0, 0))) (baG w3 w.heap.size w1.heap.size x.row) 130 hm (by kernel_rfl) rfl rfl ?hG ((List.range 130).filter fun t => ![2, 4, 5, 127, 128, 129].contains t) (by kernel_rfl) ?hold ?hs ?hend
    case hG => exact ⟨(Kp.refl _ _).le (Le.refl _).drew, HZ3.out, _, rfl, HPB3.out.2⟩
    case hold =>
      intro t ht
      unfold saS
      split <;> first | trivial | rfl | (exfalso; revert ht; decide)
    case hs =>
      refine ⟨?_, ?_, ?_, ?_, ?_, ?_, ?_, trivial⟩
      · refine GrowStep.det ?_
        intro a W hg hop
        have h1 : a.eval (.tmp 8) = .slice An mn cn := hop 8 (by simp [Op.operands])
        refine ⟨.slice An mn cn, ?_, rfl⟩
        simp only [execOp, h1]
        go_simp
      · refine GrowStep.det ?_
        intro a W hg hop
        have h1 : a.eval (.tmp 10) = .pointer (some ⟨w1.heap.size, 0, none⟩) := hop 10 (by simp [Op.operands])
        refine ⟨.agg x.row, ?_, rfl⟩
        have hs := loadAt_row (P := Tryz.prog) hg.2.1 Tryz.underlying36 rfl spu_size
        simp only [execOp, h1, hs, Sem.run_bind, Sem.run_pure, Result.andThen, Sem.run_map]
      · refine GrowStep.det ?_
        intro a W hg hop
        have h1 : a.eval (.tmp 12) = .slice A3 m3 c3 := hop 12 (by simp [Op.operands])
        refine ⟨.slice A3 m3 c3, ?_, rfl⟩
        simp only [execOp, h1]
        go_simp
      · refine GrowStep.det ?_
        intro a W hg hop
        have h1 : a.eval (.tmp 127) = .slice An mn cn := hop 127 (by simp [Op.operands])
        refine ⟨.slice An mn cn, ?_, rfl⟩
        simp only [execOp, h1]
        go_simp
      · refine GrowStep.store ?_ rfl
        intro a W hg hop
        have h1 : a.eval (.tmp 3) = .pointer (some ⟨w.heap.size, 0, none⟩) := hop 3 (by simp [Op.operands])
        have h2 : a.eval (.tmp 128) = .agg x.row := hop 128 (by simp [Op.operands])
        obtain ⟨h3, h4, cs, h5, h6⟩ := hg
        refine ⟨W.setRow w.heap.size x.row, ?_, ⟨h3.trans (kp_setRow W _ _), (setRow_other W _ _ _ hne).trans h4, x.row, rfl, setRow_heap W _ _ _ _ _ h6⟩, fun t v hv => saS_any _ _ _ _ _ t v W _ hv, fun j _ _ => setRow_heap W _ _ _ _ _ h6, setRow_heap W _ _ _ _ _ h6⟩
        have hs := run_storeVar_row (P := Tryz.prog) W w.heap.size 36 36 cs x.row h6 spu_size h5 HONE.out
        simp only [execOp, h1, h2, Instr.storeAt, Instr.sureAddr, Sem.run_bind, Sem.run_pure, Result.andThen]
        rw [hs]
      · refine GrowStep.det ?_
        intro a W hg hop
        have h1 : a.eval (.tmp 129) = .slice A3 m3 c3 := hop 129 (by simp [Op.operands])
        refine ⟨.slice A3 m3 c3, ?_, rfl⟩
        simp only [execOp, h1]
        go_simp
      · refine GrowStep.det ?_
        intro a W hg hop
        refine ⟨.int .i64 0, ?_, rfl⟩
        simp only [execOp]
        go_simp
    case hend =>
      intro a' w' hg hd hn hS hZ
      have hz := hZ 4 _ rfl rfl
      have h2 : a'.eval (.tmp 2) = .slice An mn cn := hS 2 (by decide)
      have h3 : a'.eval (.tmp 3) = .pointer (some ⟨w.heap.size, 0, none⟩) := hS 3 (by decide)
      have h4 : a'.eval (.tmp 4) = .slice A3 m3 c3 := hS 4 (by decide)
      have h5 : a'.eval (.tmp 5) = .int .i64 0 := hS 5 (by decide)
      have HG := Lib.hid hg
      have hkp : ∀ g, g ≠ w.heap.size → g < w3.heap.size → w'.heap[g]? = w3.heap[g]? := fun g hne hg => HG.out.1.block g hg (fun e => hne (by injection e))
      have HKP := Lib.hid hkp
      clear hS hZ hg hkp
      go_wp2
      refine bodyPost_ret (v := .tuple #[.slice An mn cn, x.val, .slice A3 m3 c3, .int .i64 0]) (sa_results rfl hz h2 h3 h4 h5) hd ⟨_, _, x, _, rfl, Below.trans HPB3.out.1 (HG.out.1.below (Nat.le_refl _) HPB3.out.1.size), HONE.out, ?_⟩
      rw [HX.out]
      exact ⟨rfl, HBN3.out.keepZ HPB3.out.2 HKP.out, (HU.out.le (HLE2.out.trans HLE3.out)).keepZ HPB3.out.2 HKP.out HKEY.out.1 HKEY.out.2, HKQ.out.keepZ HPB3.out.2 HKP.out HTK.out⟩
end Go.Proofs.YteedhaenbamiaaaGreatDoor
