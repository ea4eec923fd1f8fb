/- Contracts: the specification's small functions on bytes and texts. -/
import Derived.Test.YtbdeohmdpkkpdaaGreatDoorSpecU
import Derived.Test.YtbdeohmdpkkpdaaGreatDoorPar
set_option linter.unusedVariables false
set_option linter.unusedSimpArgs false
namespace Go.Proofs.YtbdeohmdpkkpdaaGreatDoor
open Go.RowKit

theorem ret_bool {a b : Bool} (h : a = b) : Ending.returned (.bool a) = .returned (.bool b) := by rw [h]
def nmB (c : Int) : Bool := decide (48 ≤ c ∧ c ≤ 57)
def hxB (c : Int) : Bool := decide ((48 ≤ c ∧ c ≤ 57) ∨ (97 ≤ c ∧ c ≤ 102) ∨ (65 ≤ c ∧ c ≤ 70))
theorem nmB_byte (x : UInt8) : nmB (x.toNat : Int) = isNm x := by
  rw [Bool.eq_iff_iff]
  simp only [nmB, isNm, decide_eq_true_eq, Bool.or_eq_true, Bool.and_eq_true, UInt8.le_iff_toNat_le]
  have e1 : (48 : UInt8).toNat = 48 := rfl
  have e2 : (57 : UInt8).toNat = 57 := rfl
  omega
theorem hxB_byte (x : UInt8) : hxB (x.toNat : Int) = isHx x := by
  rw [Bool.eq_iff_iff]
  simp only [hxB, isHx, isNm, decide_eq_true_eq, Bool.or_eq_true, Bool.and_eq_true, UInt8.le_iff_toNat_le]
  have e1 : (48 : UInt8).toNat = 48 := rfl
  have e2 : (57 : UInt8).toNat = 57 := rfl
  have e3 : (97 : UInt8).toNat = 97 := rfl
  have e4 : (102 : UInt8).toNat = 102 := rfl
  have e5 : (65 : UInt8).toNat = 65 := rfl
  have e6 : (70 : UInt8).toNat = 70 := rfl
  omega
set_option maxHeartbeats 400000 in
theorem isLetterI (c : Int) (w : World) : Calls Tryz.prog 104 #[.int .u8 c] w fun e w' => e = .returned (.bool (alB c)) ∧ w = w' := by
  go_enter Tryz.func104, Tryz.ntmps104
  go_wp2
  all_goals (go_ret; refine ⟨ret_bool (Bool.eq_iff_iff.2 ?_), rfl⟩; simp only [alB, Bool.or_eq_true, Bool.and_eq_true, decide_eq_true_eq, true_iff, true_or, or_true, Bool.false_eq_true, false_iff]; omega)
set_option maxHeartbeats 400000 in
theorem isNumberI (c : Int) (w : World) : Calls Tryz.prog 105 #[.int .u8 c] w fun e w' => e = .returned (.bool (nmB c)) ∧ w = w' := by
  go_enter Tryz.func105, Tryz.ntmps105
  go_wp2
  all_goals (go_ret; refine ⟨ret_bool (Bool.eq_iff_iff.2 ?_), rfl⟩; simp only [nmB, Bool.or_eq_true, Bool.and_eq_true, decide_eq_true_eq, true_iff, true_or, or_true, Bool.false_eq_true, false_iff]; omega)
set_option maxHeartbeats 400000 in
theorem isAlnumI (c : Int) (w : World) : Calls Tryz.prog 70 #[.int .u8 c] w fun e w' => e = .returned (.bool (alB c || nmB c)) ∧ w = w' := by
  by_cases h : alB c = true
  · go_enter Tryz.func70, Tryz.ntmps70
    go_wp2_with (first | (go_at_call 104; refine (isLetterI _ _).mono ?_; rintro e w' ⟨rfl, rfl⟩) | (go_at_call 105; refine (isNumberI _ _).mono ?_; rintro e w' ⟨rfl, rfl⟩))
    all_goals (go_ret; refine ⟨ret_bool ?_, rfl⟩; simp [h])
  · have h2 : alB c = false := by simpa using h
    clear h
    go_enter Tryz.func70, Tryz.ntmps70
    go_wp2_with (first | (go_at_call 104; refine (isLetterI _ _).mono ?_; rintro e w' ⟨rfl, rfl⟩) | (go_at_call 105; refine (isNumberI _ _).mono ?_; rintro e w' ⟨rfl, rfl⟩))
    all_goals (go_ret; refine ⟨ret_bool ?_, rfl⟩; simp [h2])
set_option maxHeartbeats 400000 in
theorem isHexI (c : Int) (w : World) : Calls Tryz.prog 126 #[.int .u8 c] w fun e w' => e = .returned (.bool (hxB c)) ∧ w = w' := by
  by_cases h : nmB c = true
  · have hh : Hid (hxB c = true) := by simp only [hxB, nmB, decide_eq_true_eq] at h ⊢; exact Lib.hid (by omega)
    go_enter Tryz.func126, Tryz.ntmps126
    go_wp2_with (go_at_call 105; refine (isNumberI _ _).mono ?_; rintro e w' ⟨rfl, rfl⟩)
    all_goals (go_ret; exact ⟨by rw [hh.out]; rfl, rfl⟩)
  · have h2 : nmB c = false := by simpa using h
    have hh : Hid (hxB c = decide ((97 ≤ c ∧ c ≤ 102) ∨ (65 ≤ c ∧ c ≤ 70))) := Lib.hid (by
      simp only [nmB, decide_eq_false_iff_not] at h2
      rw [Bool.eq_iff_iff]
      simp only [hxB, decide_eq_true_eq]
      omega)
    clear h
    go_enter Tryz.func126, Tryz.ntmps126
    go_wp2_with (go_at_call 105; refine (isNumberI _ _).mono ?_; rintro e w' ⟨rfl, rfl⟩)
    all_goals (go_ret; refine ⟨ret_bool ?_, rfl⟩; rw [hh.out]; refine (Bool.eq_iff_iff.2 ?_); simp only [Bool.or_eq_true, Bool.and_eq_true, decide_eq_true_eq, true_iff, true_or, or_true, Bool.false_eq_true, false_iff]; omega)
theorem isLetter_c (c : UInt8) (w : World) : Calls Tryz.prog 104 #[.int .u8 (c.toNat : Int)] w fun e w' => e = .returned (.bool (isAl c)) ∧ w = w' := by
  rw [← alB_byte]; exact isLetterI _ _
theorem isNumber_c (c : UInt8) (w : World) : Calls Tryz.prog 105 #[.int .u8 (c.toNat : Int)] w fun e w' => e = .returned (.bool (isNm c)) ∧ w = w' := by
  rw [← nmB_byte]; exact isNumberI _ _
theorem isAlnum_c (c : UInt8) (w : World) : Calls Tryz.prog 70 #[.int .u8 (c.toNat : Int)] w fun e w' => e = .returned (.bool (isAn c)) ∧ w = w' := by
  unfold isAn; rw [← nmB_byte, ← alB_byte]; exact isAlnumI _ _
theorem isHex_c (c : UInt8) (w : World) : Calls Tryz.prog 126 #[.int .u8 (c.toNat : Int)] w fun e w' => e = .returned (.bool (isHx c)) ∧ w = w' := by
  rw [← hxB_byte]; exact isHexI _ _

/-! ### isIn -/
theorem byte_eq (x y : UInt8) : ((x.toNat : Int) == (y.toNat : Int)) = decide (x = y) := by
  by_cases h : x = y
  · subst h; simp
  · have : ¬ (x.toNat : Int) = (y.toNat : Int) := fun e => h (UInt8.toNat_inj.1 (by omega))
    rw [decide_eq_false h]; simpa using this
theorem byte_eq_f {x y : UInt8} (h : x ≠ y) : ((x.toNat : Int) == (y.toNat : Int)) = false := by rw [byte_eq]; simpa using h
theorem byte_eq_t {x y : UInt8} (h : x = y) : ((x.toNat : Int) == (y.toNat : Int)) = true := by rw [byte_eq]; simpa using h
def hasB (l : Tx) (c : UInt8) : Bool := l.contains c
theorem contains_of {l : Tx} {c : UInt8} {k : Nat} (h : k < l.length) (e : l[k] = c) : l.contains c = true := List.contains_iff_mem.2 (e ▸ List.getElem_mem h)
set_option maxHeartbeats 400000 in
theorem isIn_c (c : UInt8) (s : ByteArray) (w : World) (hs : s.size ≤ 1099511627776) : Calls Tryz.prog 71 #[.int .u8 (c.toNat : Int), .string s] w fun e w' => e = .returned (.bool (hasB (bs s) c)) ∧ w = w' := by
  have HL := Lib.hid (bs_len s)
  go_enter Tryz.func71, Tryz.ntmps71
  go_wp2
  go_loop [5] (fun i => ∃ k : Nat, k ≤ s.size ∧ i = .int .i64 k ∧ ((bs s).take k).contains c = false) (fun i => s.size - (intOf i).toNat)
  case atStart => exact ⟨0, Nat.zero_le _, rfl, rfl⟩
  case round =>
    obtain ⟨k, hk, rfl, hq⟩ := hrel
    have HQ := Lib.hid hq
    clear hq
    by_cases hlt : k < s.size
    · have hlt2 : k < (bs s).length := by rw [HL.out]; exact hlt
      by_cases hx : (bs s)[k] = c
      · have e1 : ((s[k].toNat : Int) == (c.toNat : Int)) = true := byte_eq_t hx
        have HX : Hid (hasB (bs s) c = true) := Lib.hid (contains_of hlt2 hx)
        clear hx
        go_wp2
        go_ret
        exact ⟨by rw [HX.out]; rfl, rfl⟩
      · have e1 : ((s[k].toNat : Int) == (c.toNat : Int)) = false := byte_eq_f hx
        have HX : Hid (((bs s).take (k + 1)).contains c = false) := Lib.hid (by
          rw [List.take_succ_eq_append_getElem hlt2, List.contains_eq_any_beq, List.any_append, ← List.contains_eq_any_beq, HQ.out]
          simpa using fun e => hx e.symm)
        clear hx
        go_wp2
        go_round
        case rel => exact ⟨k + 1, by omega, by go_num, HX.out⟩
        case measure => simp [intOf]; omega
    · have HX : Hid (hasB (bs s) c = false) := Lib.hid (by have := HQ.out; rw [List.take_of_length_le (by rw [HL.out]; omega)] at this; exact this)
      go_wp2
      go_ret
      exact ⟨by rw [HX.out]; rfl, rfl⟩
end Go.Proofs.YtbdeohmdpkkpdaaGreatDoor
