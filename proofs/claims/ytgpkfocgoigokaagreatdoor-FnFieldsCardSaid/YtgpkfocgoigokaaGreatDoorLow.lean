/- Contracts: errors.New, isASCII, the Builder, ASCIIToLower (printed by gen_low.py). -/
import Derived.Test.YtgpkfocgoigokaaGreatDoorLaid
set_option linter.unusedVariables false
set_option linter.unusedSimpArgs false
namespace Go.Proofs.YtgpkfocgoigokaaGreatDoor
open Go.RowKit

set_option maxHeartbeats 400000 in
theorem errnew_c (s : ByteArray) (w : World) : Calls Tryz.prog 22 #[.string s] w fun e w' => e = .returned (.iface 96 (.pointer (some ⟨w.heap.size, 0, none⟩))) ∧ Le w w' := by
  go_enter Tryz.func22, Tryz.ntmps22
  go_wp2
  go_ret
  exact ⟨rfl, by go_grown⟩

def alB (c : Int) : Bool := decide ((97 ≤ c ∧ c ≤ 122) ∨ (65 ≤ c ∧ c ≤ 90))
theorem alB_byte (x : UInt8) : alB (x.toNat : Int) = isAl x := by
  rw [Bool.eq_iff_iff]
  simp only [alB, isAl, decide_eq_true_eq, Bool.or_eq_true, Bool.and_eq_true, UInt8.le_iff_toNat_le]
  have e1 : (97 : UInt8).toNat = 97 := rfl
  have e2 : (122 : UInt8).toNat = 122 := rfl
  have e3 : (65 : UInt8).toNat = 65 := rfl
  have e4 : (90 : UInt8).toNat = 90 := rfl
  omega
set_option maxHeartbeats 400000 in
theorem isASCII_c (c : Int) (w : World) : Calls Tryz.prog 38 #[.int .i32 c] w fun e w' => e = .returned (.bool (alB c)) ∧ w = w' := by
  by_cases h1 : 97 ≤ c
  · by_cases h2 : c ≤ 122
    · have h : alB c = true := by simp only [alB, decide_eq_true_eq]; omega
      have H := Lib.hid h; clear h
      go_enter Tryz.func38, Tryz.ntmps38
      go_wp2
      go_ret
      exact ⟨by rw [H.out]; rfl, rfl⟩
    · have h : alB c = false := by simp only [alB, decide_eq_false_iff_not]; omega
      have H := Lib.hid h; clear h
      have e1 : decide (c ≤ 122) = false := by simp; omega
      have e2 : decide (c ≤ 90) = false := by simp; omega
      go_enter Tryz.func38, Tryz.ntmps38
      go_wp2
      all_goals (go_ret; exact ⟨by rw [H.out]; rfl, rfl⟩)
  · by_cases h3 : 65 ≤ c
    · by_cases h4 : c ≤ 90
      · have h : alB c = true := by simp only [alB, decide_eq_true_eq]; omega
        have H := Lib.hid h; clear h
        go_enter Tryz.func38, Tryz.ntmps38
        go_wp2
        all_goals (go_ret; exact ⟨by rw [H.out]; rfl, rfl⟩)
      · have h : alB c = false := by simp only [alB, decide_eq_false_iff_not]; omega
        have H := Lib.hid h; clear h
        have e2 : decide (c ≤ 90) = false := by simp; omega
        go_enter Tryz.func38, Tryz.ntmps38
        go_wp2
        all_goals (go_ret; exact ⟨by rw [H.out]; rfl, rfl⟩)
    · have h : alB c = false := by simp only [alB, decide_eq_false_iff_not]; omega
      have H := Lib.hid h; clear h
      go_enter Tryz.func38, Tryz.ntmps38
      go_wp2
      all_goals (go_ret; exact ⟨by rw [H.out]; rfl, rfl⟩)

/-! ### a Builder of the call's own -/
/-- block b (one from B on) is a strings.Builder that holds l -/
def Bld (B b : Nat) (l : Tx) (w : World) : Prop := Lib.IsBuilderF 84 5 B b (Lib.byteCells l) w
/-- what lies below B stands, and every block but b that is no row of bytes -/
def BFr (B b : Nat) (w w' : World) : Prop := Below B w w' ∧ Lib.OthersKept 5 (some b) w w'
theorem bld_new (w : World) : Bld w.heap.size w.heap.size [] (w.alloc (.cells #[.pointer none, .slice none 0 0] 84)) := Lib.IsBuilderF.of (Lib.fresh_isBuilder _ _ w)
theorem Bld.le {B b : Nat} {l : Tx} {w w' : World} (h : Bld B b l w) (hb : Le w w') : Bld B b l w' := by
  have hk : w.grownBy w' none := ⟨hb.os, hb.tape, hb.output, hb.size, fun k hk _ => hb.block k hk⟩
  have one : ∀ p, Lib.BuilderAtF 84 5 B b p (Lib.byteCells l) w → Lib.BuilderAtF 84 5 B b p (Lib.byteCells l) w' := fun p h => by
    have hlt := h.lt
    obtain ⟨hB, v, hv, hown, hne⟩ := h
    exact ⟨hB, v, (hb.block b hlt).trans hv, hown.kept hk (Classical.em _), hne⟩
  exact h.elim (fun x => .inl (one _ x)) (fun x => .inr (one _ x))
theorem Bld.lt {B b : Nat} {l : Tx} {w : World} (h : Bld B b l w) : b < w.heap.size := h.elim (fun x => x.lt) (fun x => x.lt)
theorem Bld.ge {B b : Nat} {l : Tx} {w : World} (h : Bld B b l w) : B ≤ b := h.elim (fun x => x.1) (fun x => x.1)
theorem ws_c (B b : Nat) (l : Tx) (s : ByteArray) (w : World) (h : Bld B b l w) (hl : l.length + s.size ≤ 140737488355328) : Calls Tryz.prog 47 #[.pointer (some ⟨b, 0, none⟩), .string s] w fun e w' =>
    e = .returned (.tuple #[.int .i64 s.size, .nilIface]) ∧ Bld B b (l ++ bs s) w' ∧ BFr B b w w' := by
  refine (Tryz.Builder_WriteString_k B b (Lib.byteCells l) s w h (by rw [Lib.byteCells_length]; exact hl) (Nat.le_of_lt (Nat.lt_of_le_of_lt h.ge h.lt))).mono fun e w' ⟨he, h1, h2, h3⟩ => ⟨he, ?_, h2, h3⟩
  rw [Lib.strCells_eq, ← Lib.byteCells_append] at h1
  exact .inr h1
theorem wb_c (B b : Nat) (l : Tx) (c : Int) (x : UInt8) (w : World) (h : Bld B b l w) (hc : c = (x.toNat : Int)) (hl : l.length + 1 ≤ 140737488355328) : Calls Tryz.prog 48 #[.pointer (some ⟨b, 0, none⟩), .int .u8 c] w fun e w' =>
    e = .returned .nilIface ∧ Bld B b (l ++ [x]) w' ∧ BFr B b w w' := by
  refine (Tryz.Builder_WriteByte_k B b (Lib.byteCells l) c w h (by rw [Lib.byteCells_length]; exact hl) (Nat.le_of_lt (Nat.lt_of_le_of_lt h.ge h.lt))).mono fun e w' ⟨he, h1, h2, h3⟩ => ⟨he, ?_, h2, h3⟩
  rw [hc, show Lib.byteCells l ++ [Value.int .u8 (x.toNat : Int)] = Lib.byteCells (l ++ [x]) from by rw [Lib.byteCells_append]; rfl] at h1
  exact .inr h1
theorem bstr_c (B b : Nat) (l : Tx) (w : World) (h : Bld B b l w) : Calls Tryz.prog 30 #[.pointer (some ⟨b, 0, none⟩)] w fun e w' =>
    e = .returned (.string (st l)) ∧ Bld B b l w' ∧ BFr B b w w' :=
  (Tryz.Builder_String_any_k B b l w h (Nat.le_of_lt (Nat.lt_of_le_of_lt h.ge h.lt))).mono fun e w' ⟨he, h1, h2, h3⟩ => ⟨he, h1, h2, h3⟩
theorem bgrow_c (w0 w : World) (n : Int) (hw : w = w0.alloc (.cells #[.pointer none, .slice none 0 0] 84)) (h0 : 0 ≤ n) (hn : n ≤ 281474976710656) : Calls Tryz.prog 46 #[.pointer (some ⟨w0.heap.size, 0, none⟩), .int .i64 n] w fun e w' =>
    e = .returned (.tuple #[]) ∧ Bld w0.heap.size w0.heap.size [] w' ∧ Le w0 w' := by
  obtain ⟨m, rfl⟩ := Int.eq_ofNat_of_zero_le h0
  subst hw
  refine (Tryz.Builder_Grow_fresh w0.heap.size w0.heap.size m _ (Nat.le_refl _) (heap_alloc_new w0 _) (by simp) (by omega)).mono fun e w' ⟨he, h1, h2⟩ => ⟨he, .inr (Lib.BuilderAtF.of h1), (Below.alloc (Le.refl w0) (Nat.le_refl _) _).trans h2⟩


theorem aSCIIToLower_all (l : Tx) (h : l.all (fun c => 97 ≤ c && c ≤ 122) = true) : l.map lowC = l := by
  induction l with
  | nil => rfl
  | cons x r ih =>
    simp only [List.all_cons, Bool.and_eq_true, decide_eq_true_eq] at h
    have e : lowC x = x := by
      unfold lowC
      rw [if_neg]
      simp only [Bool.and_eq_true, decide_eq_true_eq, UInt8.le_iff_toNat_le, not_and]
      have h1 := UInt8.le_iff_toNat_le.1 h.1.1
      have h2 := UInt8.le_iff_toNat_le.1 h.1.2
      have e1 : (97 : UInt8).toNat = 97 := rfl
      have e2 : (122 : UInt8).toNat = 122 := rfl
      have e3 : (65 : UInt8).toNat = 65 := rfl
      have e4 : (90 : UInt8).toNat = 90 := rfl
      omega
    rw [List.map_cons, e, ih h.2]
theorem aSCIIToLower_in (x : UInt8) : (97 ≤ x && x ≤ 122) = decide (97 ≤ (x.toNat : Int) ∧ (x.toNat : Int) ≤ 122) := by
  rw [Bool.eq_iff_iff]
  simp only [Bool.and_eq_true, decide_eq_true_eq, UInt8.le_iff_toNat_le]
  have e1 : (97 : UInt8).toNat = 97 := rfl
  have e2 : (122 : UInt8).toNat = 122 := rfl
  omega
theorem aSCIIToLower_yes (x : UInt8) (h1 : 65 ≤ (x.toNat : Int)) (h2 : (x.toNat : Int) ≤ 90) : ((lowC x).toNat : Int) = (x.toNat : Int) + (32) := by
  unfold lowC
  rw [if_pos]
  · have := x.toNat_lt
    rw [UInt8.toNat_add]
    have e : (32 : UInt8).toNat = 32 := rfl
    rw [e]
    omega
  · simp only [Bool.and_eq_true, decide_eq_true_eq, UInt8.le_iff_toNat_le]
    have e3 : (65 : UInt8).toNat = 65 := rfl
    have e4 : (90 : UInt8).toNat = 90 := rfl
    omega
theorem aSCIIToLower_no (x : UInt8) (h : ¬ (65 ≤ (x.toNat : Int) ∧ (x.toNat : Int) ≤ 90)) : lowC x = x := by
  unfold lowC
  rw [if_neg]
  simp only [Bool.and_eq_true, decide_eq_true_eq, UInt8.le_iff_toNat_le, not_and]
  have e3 : (65 : UInt8).toNat = 65 := rfl
  have e4 : (90 : UInt8).toNat = 90 := rfl
  omega
set_option maxHeartbeats 2000000 in
theorem aSCIIToLower_c (s : ByteArray) (w : World) (hs : s.size ≤ 1099511627776) : Calls Tryz.prog 36 #[.string s] w fun e w' => e = .returned (.string (st ((bs s).map lowC))) ∧ Le w w' := by
  have HL := Lib.hid (bs_len s)
  go_enter Tryz.func36, Tryz.ntmps36
  go_wp2
  go_loopg [3] (s.size) (fun n nl wr => ∃ p : Nat, n + p = s.size ∧ nl = .int .i64 (-1) ∧ Le w wr ∧ wr.heap[w.heap.size]? = some (.stringIter s p) ∧ ((bs s).take p).all (fun c => 97 ≤ c && c ≤ 122) = true)
  case atStart => exact ⟨0, by omega, rfl, (Le.refl w).iter s 0, World.iter_heap _ _ _, rfl⟩
  case round =>
    obtain ⟨p, hn, rfl, hle, hit, hq⟩ := hrel
    have HQ := Lib.hid hq
    have HLE := Lib.hid hle
    have HN : gk + p ≤ s.size ∧ s.size ≤ gk + p := by omega
    clear hn hq hle
    by_cases hlt : p < s.size
    · obtain ⟨c, d, W1, hnx, hst, hit1, hW1⟩ := next_step (P := Tryz.prog) hit hlt
      have HLE1 := Lib.hid (hW1 ▸ HLE.out.iterAt (Nat.le_refl _) s (p + d) : Le w W1)
      have HST := Lib.hid hst
      have HS2 : 1 ≤ d ∧ p + d ≤ s.size ∧ 0 ≤ c ∧ c ≤ 1114111 := ⟨hst.1, hst.2.1, hst.2.2.1, hst.2.2.2.1⟩
      have HIT1 := Lib.hid hit1
      clear hW1 hst hit hit1
      by_cases hc : 97 ≤ c ∧ c ≤ 122
      · have hF : Hid (((bs s).take (p + d)).all (fun c => 97 ≤ c && c ≤ 122) = true) := by
          obtain ⟨_, _, _, _, h5⟩ := HST.out
          rcases h5 with ⟨hp, e, rfl, _⟩ | ⟨e, _⟩
          · show ((bs s).take (p + 1)).all _ = true
            rw [List.take_succ_eq_append_getElem hp, all_snoc, HQ.out, aSCIIToLower_in, ← e]
            simpa using hc
          · omega
        obtain ⟨hc1, hc2⟩ := hc
        go_wp2
        go_roundg (gk - d)
        case measure => omega
        case rel => exact ⟨p + d, by omega, rfl, HLE1.out, HIT1.out, hF.out⟩
      · have hT : Hid (((bs s).take p).map lowC = (bs s).take p) := aSCIIToLower_all _ HQ.out
        have hb1 : decide (97 ≤ c) = false ∨ (97 ≤ c ∧ decide (c ≤ 122) = false) := by
          by_cases h : 97 ≤ c
          · exact .inr ⟨h, by simp only [decide_eq_false_iff_not]; omega⟩
          · exact .inl (by simp only [decide_eq_false_iff_not]; omega)
        clear hc
        rcases hb1 with hb1 | ⟨hb0, hb1⟩
        all_goals
          go_wp2_with fail
          refine (bgrow_c W1 _ s.size rfl (by omega) (by omega)).mono ?_
          rintro e w2 ⟨rfl, hB, hle2⟩
          have HB := Lib.hid hB
          have HLE2 := Lib.hid (HLE1.out.trans hle2)
          clear hB hle2
          go_wp2_with fail
          refine (ws_c _ _ [] (s.extract 0 p) _ HB.out (by rw [← bs_len, bs_extract]; simp only [List.length_nil, List.length_drop, List.length_take, HL.out]; omega)).mono ?_
          rintro e w3 ⟨rfl, hB, hfr⟩
          have HB3 : Hid (Bld W1.heap.size W1.heap.size (((bs s).take p).map lowC) w3) := by
            rw [hT.out]
            rw [List.nil_append, bs_extract, List.drop_zero] at hB
            exact hB
          have HLE3 : Hid (Le w w3) := Below.trans HLE2.out (hfr.1.mono HLE1.out.size)
          have HSZ : w.heap.size ≤ W1.heap.size := HLE1.out.size
          clear hB hfr
          go_wp2
          go_loopg [7] (s.size - p) (fun n i wr => ∃ k : Nat, n + k = s.size ∧ i = .int .i64 k ∧ Le w wr ∧ Bld W1.heap.size W1.heap.size (((bs s).take k).map lowC) wr)
          case atStart => exact ⟨p, by omega, rfl, HLE3.out, HB3.out⟩
          case round =>
            obtain ⟨k, hn, rfl, hle, hB⟩ := hrel
            have HB4 := Lib.hid hB
            have HLE4 := Lib.hid hle
            clear hB hle
            by_cases hk : k < s.size
            · have HX : Hid (s[k]'hk = (bs s)[k]'(by rw [HL.out]; exact hk)) := at_bs s k hk
              have HM : Hid (((bs s).take (k + 1)).map lowC = ((bs s).take k).map lowC ++ [lowC (s[k]'hk)]) := by
                rw [List.take_succ_eq_append_getElem (by rw [HL.out]; exact hk), List.map_append, HX.out]; rfl
              have hcase : (65 ≤ ((s[k]'hk).toNat : Int) ∧ ((s[k]'hk).toNat : Int) ≤ 90) ∨ (¬ (65 ≤ ((s[k]'hk).toNat : Int) ∧ ((s[k]'hk).toNat : Int) ≤ 90) ∧ (decide (65 ≤ ((s[k]'hk).toNat : Int)) = false ∨ (65 ≤ ((s[k]'hk).toNat : Int) ∧ decide (((s[k]'hk).toNat : Int) ≤ 90) = false))) := by
                by_cases h1 : 65 ≤ ((s[k]'hk).toNat : Int)
                · by_cases h2 : ((s[k]'hk).toNat : Int) ≤ 90
                  · exact .inl ⟨h1, h2⟩
                  · exact .inr ⟨fun h => h2 h.2, .inr ⟨h1, by simp only [decide_eq_false_iff_not]; exact h2⟩⟩
                · exact .inr ⟨fun h => h1 h.1, .inl (by simp only [decide_eq_false_iff_not]; exact h1)⟩
              rcases hcase with ⟨h1, h2⟩ | ⟨hno, hcase⟩
              · have HY := Lib.hid (aSCIIToLower_yes _ h1 h2)
                go_wp2_with fail
                refine (wb_c W1.heap.size _ _ _ (lowC (s[k]'hk)) _ HB4.out ?_ ?_).mono ?_
                · have := HY.out; omega
                · rw [List.length_map, List.length_take, HL.out]; omega
                rintro e w5 ⟨rfl, hB, hfr⟩
                rw [← HM.out] at hB
                have HB5 := Lib.hid hB
                have HLE5 : Hid (Le w w5) := Below.trans HLE4.out (hfr.1.mono HSZ)
                clear hB hfr
                go_wp2
                go_roundg (gk - 1)
                case measure => omega
                case rel => exact ⟨k + 1, by omega, by go_num, HLE5.out, HB5.out⟩
              · have HY := Lib.hid (aSCIIToLower_no _ hno)
                clear hno
                rcases hcase with h1 | ⟨h0, h1⟩
                all_goals
                  go_wp2_with fail
                  refine (wb_c W1.heap.size _ _ _ (lowC (s[k]'hk)) _ HB4.out ?_ ?_).mono ?_
                  · rw [HY.out]
                  · rw [List.length_map, List.length_take, HL.out]; omega
                  rintro e w5 ⟨rfl, hB, hfr⟩
                  rw [← HM.out] at hB
                  have HB5 := Lib.hid hB
                  have HLE5 : Hid (Le w w5) := Below.trans HLE4.out (hfr.1.mono HSZ)
                  clear hB hfr
                  go_wp2
                  go_roundg (gk - 1)
                  case measure => omega
                  case rel => exact ⟨k + 1, by omega, by go_num, HLE5.out, HB5.out⟩
            · have hE : Hid (((bs s).take k).map lowC = (bs s).map lowC) := by rw [List.take_of_length_le (by rw [HL.out]; omega)]; exact rfl
              obtain ⟨acc, hacc⟩ : ∃ acc, acc = ((bs s).take k).map lowC := ⟨_, rfl⟩
              rw [← hacc] at HB4 hE
              clear hacc
              go_wp2_with fail
              refine (bstr_c W1.heap.size _ _ _ HB4.out).mono ?_
              rintro e w5 ⟨rfl, hB, hfr⟩
              have HLE5 : Hid (Le w w5) := Below.trans HLE4.out (hfr.1.mono HSZ)
              clear hB hfr
              go_wp2
              go_ret
              exact ⟨by rw [hE.out]; rfl, HLE5.out⟩
    · have hnx := fun ty => Lib.run_next_end_at (P := Tryz.prog) wr _ s p ty hit hlt
      have hT : Hid ((bs s).map lowC = bs s) := by
        refine aSCIIToLower_all _ ?_
        have h1 := HQ.out
        rw [List.take_of_length_le (by rw [HL.out]; omega)] at h1
        exact h1
      clear hit
      go_wp2
      go_ret
      exact ⟨by rw [hT.out, st_bs]; rfl, HLE.out⟩



end Go.Proofs.YtgpkfocgoigokaaGreatDoor
