/- Contracts: the laws' small functions on bytes and texts (printed by gen_lw.py). -/
import Derived.Test.YtbdeohmdpkkpdaaGreatDoorSpW4
set_option linter.unusedVariables false
set_option linter.unusedSimpArgs false
namespace Go.Proofs.YtbdeohmdpkkpdaaGreatDoor
open Go.RowKit

set_option maxHeartbeats 400000 in
theorem isLetterL (c : Int) (w : World) : Calls Tryz.prog 127 #[.int .u8 c] w fun e w' => e = .returned (.bool (alB c)) ∧ w = w' := by
  go_enter Tryz.func127, Tryz.ntmps127
  go_wp2
  all_goals (go_ret; refine ⟨ret_bool (Bool.eq_iff_iff.2 ?_), rfl⟩; simp only [alB, Bool.or_eq_true, Bool.and_eq_true, decide_eq_true_eq, true_iff, true_or, or_true, Bool.false_eq_true, false_iff]; omega)
set_option maxHeartbeats 400000 in
theorem isDigitL (c : Int) (w : World) : Calls Tryz.prog 128 #[.int .u8 c] w fun e w' => e = .returned (.bool (nmB c)) ∧ w = w' := by
  go_enter Tryz.func128, Tryz.ntmps128
  go_wp2
  all_goals (go_ret; refine ⟨ret_bool (Bool.eq_iff_iff.2 ?_), rfl⟩; simp only [nmB, Bool.or_eq_true, Bool.and_eq_true, decide_eq_true_eq, true_iff, true_or, or_true, Bool.false_eq_true, false_iff]; omega)
theorem ne_t {x : UInt8} {n : Nat} (hn : n < 256) (h : ¬ x = UInt8.ofNat n) : ((x.toNat : Int) != (n : Int)) = true := by rw [byte_ne x n hn, decide_eq_false h]; rfl
theorem ne_f {x : UInt8} {n : Nat} (hn : n < 256) (h : x = UInt8.ofNat n) : ((x.toNat : Int) != (n : Int)) = false := by rw [byte_ne x n hn, decide_eq_true h]; rfl
theorem eq_t {x : UInt8} {n : Nat} (hn : n < 256) (h : x = UInt8.ofNat n) : ((x.toNat : Int) == (n : Int)) = true := by rw [byte_eqn x n hn, decide_eq_true h]
theorem eq_f {x : UInt8} {n : Nat} (hn : n < 256) (h : ¬ x = UInt8.ofNat n) : ((x.toNat : Int) == (n : Int)) = false := by rw [byte_eqn x n hn, decide_eq_false h]
theorem al_t {x : UInt8} (h : isAl x = true) : alB (x.toNat : Int) = true := by rw [alB_byte]; exact h
theorem al_f {x : UInt8} (h : ¬ isAl x = true) : alB (x.toNat : Int) = false := by rw [alB_byte]; simpa using h
theorem nm_t {x : UInt8} (h : isNm x = true) : nmB (x.toNat : Int) = true := by rw [nmB_byte]; exact h
theorem nm_f {x : UInt8} (h : ¬ isNm x = true) : nmB (x.toNat : Int) = false := by rw [nmB_byte]; simpa using h

def wdq (c : UInt8) : Bool := isAl c || isNm c || c == 45 || c == 46 || c == 33 || c == 42 || c == 95 || c == 43 || c == 126
set_option maxHeartbeats 1000000 in
theorem isWordByte_c (c : UInt8) (w : World) : Calls Tryz.prog 108 #[.int .u8 (c.toNat : Int)] w fun e w' => e = .returned (.bool (wdq c)) ∧ w = w' := by
  by_cases c0 : isAl c = true
  · have f0 : alB ((c).toNat : Int) = true := al_t c0
    have HX : Hid (wdq c = true) := Lib.hid (by unfold wdq; simp [c0])
    clear c0
    generalize (c.toNat : Int) = x at f0 ⊢
    go_enter Tryz.func108, Tryz.ntmps108
    go_wp2_with (first | (go_at_call 127; refine (isLetterL _ _).mono ?_; rintro e w' ⟨rfl, rfl⟩) | (go_at_call 128; refine (isDigitL _ _).mono ?_; rintro e w' ⟨rfl, rfl⟩))
    go_ret
    exact ⟨by rw [HX.out]; rfl, rfl⟩
  · skip
    by_cases c1 : isNm c = true
    · have f0 : alB ((c).toNat : Int) = false := al_f c0
      have f1 : nmB ((c).toNat : Int) = true := nm_t c1
      have HX : Hid (wdq c = true) := Lib.hid (by unfold wdq; simp [c1])
      clear c0 c1
      generalize (c.toNat : Int) = x at f0 f1 ⊢
      go_enter Tryz.func108, Tryz.ntmps108
      go_wp2_with (first | (go_at_call 127; refine (isLetterL _ _).mono ?_; rintro e w' ⟨rfl, rfl⟩) | (go_at_call 128; refine (isDigitL _ _).mono ?_; rintro e w' ⟨rfl, rfl⟩))
      go_ret
      exact ⟨by rw [HX.out]; rfl, rfl⟩
    · skip
      by_cases c2 : c = 45
      · have f0 : alB ((c).toNat : Int) = false := al_f c0
        have f1 : nmB ((c).toNat : Int) = false := nm_f c1
        have f2 : (((c).toNat : Int) == 45) = true := eq_t (n := 45) (by omega) c2
        have HX : Hid (wdq c = true) := Lib.hid (by unfold wdq; simp [c2])
        clear c0 c1 c2
        generalize (c.toNat : Int) = x at f0 f1 f2 ⊢
        go_enter Tryz.func108, Tryz.ntmps108
        go_wp2_with (first | (go_at_call 127; refine (isLetterL _ _).mono ?_; rintro e w' ⟨rfl, rfl⟩) | (go_at_call 128; refine (isDigitL _ _).mono ?_; rintro e w' ⟨rfl, rfl⟩))
        go_ret
        exact ⟨by rw [HX.out]; rfl, rfl⟩
      · skip
        by_cases c3 : c = 46
        · have f0 : alB ((c).toNat : Int) = false := al_f c0
          have f1 : nmB ((c).toNat : Int) = false := nm_f c1
          have f2 : (((c).toNat : Int) == 45) = false := eq_f (n := 45) (by omega) c2
          have f3 : (((c).toNat : Int) == 46) = true := eq_t (n := 46) (by omega) c3
          have HX : Hid (wdq c = true) := Lib.hid (by unfold wdq; simp [c3])
          clear c0 c1 c2 c3
          generalize (c.toNat : Int) = x at f0 f1 f2 f3 ⊢
          go_enter Tryz.func108, Tryz.ntmps108
          go_wp2_with (first | (go_at_call 127; refine (isLetterL _ _).mono ?_; rintro e w' ⟨rfl, rfl⟩) | (go_at_call 128; refine (isDigitL _ _).mono ?_; rintro e w' ⟨rfl, rfl⟩))
          go_ret
          exact ⟨by rw [HX.out]; rfl, rfl⟩
        · skip
          by_cases c4 : c = 33
          · have f0 : alB ((c).toNat : Int) = false := al_f c0
            have f1 : nmB ((c).toNat : Int) = false := nm_f c1
            have f2 : (((c).toNat : Int) == 45) = false := eq_f (n := 45) (by omega) c2
            have f3 : (((c).toNat : Int) == 46) = false := eq_f (n := 46) (by omega) c3
            have f4 : (((c).toNat : Int) == 33) = true := eq_t (n := 33) (by omega) c4
            have HX : Hid (wdq c = true) := Lib.hid (by unfold wdq; simp [c4])
            clear c0 c1 c2 c3 c4
            generalize (c.toNat : Int) = x at f0 f1 f2 f3 f4 ⊢
            go_enter Tryz.func108, Tryz.ntmps108
            go_wp2_with (first | (go_at_call 127; refine (isLetterL _ _).mono ?_; rintro e w' ⟨rfl, rfl⟩) | (go_at_call 128; refine (isDigitL _ _).mono ?_; rintro e w' ⟨rfl, rfl⟩))
            go_ret
            exact ⟨by rw [HX.out]; rfl, rfl⟩
          · skip
            by_cases c5 : c = 42
            · have f0 : alB ((c).toNat : Int) = false := al_f c0
              have f1 : nmB ((c).toNat : Int) = false := nm_f c1
              have f2 : (((c).toNat : Int) == 45) = false := eq_f (n := 45) (by omega) c2
              have f3 : (((c).toNat : Int) == 46) = false := eq_f (n := 46) (by omega) c3
              have f4 : (((c).toNat : Int) == 33) = false := eq_f (n := 33) (by omega) c4
              have f5 : (((c).toNat : Int) == 42) = true := eq_t (n := 42) (by omega) c5
              have HX : Hid (wdq c = true) := Lib.hid (by unfold wdq; simp [c5])
              clear c0 c1 c2 c3 c4 c5
              generalize (c.toNat : Int) = x at f0 f1 f2 f3 f4 f5 ⊢
              go_enter Tryz.func108, Tryz.ntmps108
              go_wp2_with (first | (go_at_call 127; refine (isLetterL _ _).mono ?_; rintro e w' ⟨rfl, rfl⟩) | (go_at_call 128; refine (isDigitL _ _).mono ?_; rintro e w' ⟨rfl, rfl⟩))
              go_ret
              exact ⟨by rw [HX.out]; rfl, rfl⟩
            · skip
              by_cases c6 : c = 95
              · have f0 : alB ((c).toNat : Int) = false := al_f c0
                have f1 : nmB ((c).toNat : Int) = false := nm_f c1
                have f2 : (((c).toNat : Int) == 45) = false := eq_f (n := 45) (by omega) c2
                have f3 : (((c).toNat : Int) == 46) = false := eq_f (n := 46) (by omega) c3
                have f4 : (((c).toNat : Int) == 33) = false := eq_f (n := 33) (by omega) c4
                have f5 : (((c).toNat : Int) == 42) = false := eq_f (n := 42) (by omega) c5
                have f6 : (((c).toNat : Int) == 95) = true := eq_t (n := 95) (by omega) c6
                have HX : Hid (wdq c = true) := Lib.hid (by unfold wdq; simp [c6])
                clear c0 c1 c2 c3 c4 c5 c6
                generalize (c.toNat : Int) = x at f0 f1 f2 f3 f4 f5 f6 ⊢
                go_enter Tryz.func108, Tryz.ntmps108
                go_wp2_with (first | (go_at_call 127; refine (isLetterL _ _).mono ?_; rintro e w' ⟨rfl, rfl⟩) | (go_at_call 128; refine (isDigitL _ _).mono ?_; rintro e w' ⟨rfl, rfl⟩))
                go_ret
                exact ⟨by rw [HX.out]; rfl, rfl⟩
              · skip
                by_cases c7 : c = 43
                · have f0 : alB ((c).toNat : Int) = false := al_f c0
                  have f1 : nmB ((c).toNat : Int) = false := nm_f c1
                  have f2 : (((c).toNat : Int) == 45) = false := eq_f (n := 45) (by omega) c2
                  have f3 : (((c).toNat : Int) == 46) = false := eq_f (n := 46) (by omega) c3
                  have f4 : (((c).toNat : Int) == 33) = false := eq_f (n := 33) (by omega) c4
                  have f5 : (((c).toNat : Int) == 42) = false := eq_f (n := 42) (by omega) c5
                  have f6 : (((c).toNat : Int) == 95) = false := eq_f (n := 95) (by omega) c6
                  have f7 : (((c).toNat : Int) == 43) = true := eq_t (n := 43) (by omega) c7
                  have HX : Hid (wdq c = true) := Lib.hid (by unfold wdq; simp [c7])
                  clear c0 c1 c2 c3 c4 c5 c6 c7
                  generalize (c.toNat : Int) = x at f0 f1 f2 f3 f4 f5 f6 f7 ⊢
                  go_enter Tryz.func108, Tryz.ntmps108
                  go_wp2_with (first | (go_at_call 127; refine (isLetterL _ _).mono ?_; rintro e w' ⟨rfl, rfl⟩) | (go_at_call 128; refine (isDigitL _ _).mono ?_; rintro e w' ⟨rfl, rfl⟩))
                  go_ret
                  exact ⟨by rw [HX.out]; rfl, rfl⟩
                · skip
                  by_cases c8 : c = 126
                  · have f0 : alB ((c).toNat : Int) = false := al_f c0
                    have f1 : nmB ((c).toNat : Int) = false := nm_f c1
                    have f2 : (((c).toNat : Int) == 45) = false := eq_f (n := 45) (by omega) c2
                    have f3 : (((c).toNat : Int) == 46) = false := eq_f (n := 46) (by omega) c3
                    have f4 : (((c).toNat : Int) == 33) = false := eq_f (n := 33) (by omega) c4
                    have f5 : (((c).toNat : Int) == 42) = false := eq_f (n := 42) (by omega) c5
                    have f6 : (((c).toNat : Int) == 95) = false := eq_f (n := 95) (by omega) c6
                    have f7 : (((c).toNat : Int) == 43) = false := eq_f (n := 43) (by omega) c7
                    have f8 : (((c).toNat : Int) == 126) = true := eq_t (n := 126) (by omega) c8
                    have HX : Hid (wdq c = true) := Lib.hid (by unfold wdq; simp [c8])
                    clear c0 c1 c2 c3 c4 c5 c6 c7 c8
                    generalize (c.toNat : Int) = x at f0 f1 f2 f3 f4 f5 f6 f7 f8 ⊢
                    go_enter Tryz.func108, Tryz.ntmps108
                    go_wp2_with (first | (go_at_call 127; refine (isLetterL _ _).mono ?_; rintro e w' ⟨rfl, rfl⟩) | (go_at_call 128; refine (isDigitL _ _).mono ?_; rintro e w' ⟨rfl, rfl⟩))
                    go_ret
                    exact ⟨by rw [HX.out]; rfl, rfl⟩
                  · have f0 : alB ((c).toNat : Int) = false := al_f c0
                    have f1 : nmB ((c).toNat : Int) = false := nm_f c1
                    have f2 : (((c).toNat : Int) == 45) = false := eq_f (n := 45) (by omega) c2
                    have f3 : (((c).toNat : Int) == 46) = false := eq_f (n := 46) (by omega) c3
                    have f4 : (((c).toNat : Int) == 33) = false := eq_f (n := 33) (by omega) c4
                    have f5 : (((c).toNat : Int) == 42) = false := eq_f (n := 42) (by omega) c5
                    have f6 : (((c).toNat : Int) == 95) = false := eq_f (n := 95) (by omega) c6
                    have f7 : (((c).toNat : Int) == 43) = false := eq_f (n := 43) (by omega) c7
                    have f8 : (((c).toNat : Int) == 126) = false := eq_f (n := 126) (by omega) c8
                    have HX : Hid (wdq c = false) := Lib.hid (by unfold wdq; simp [c0, c1, c2, c3, c4, c5, c6, c7, c8])
                    clear c0 c1 c2 c3 c4 c5 c6 c7 c8
                    generalize (c.toNat : Int) = x at f0 f1 f2 f3 f4 f5 f6 f7 f8 ⊢
                    go_enter Tryz.func108, Tryz.ntmps108
                    go_wp2_with (first | (go_at_call 127; refine (isLetterL _ _).mono ?_; rintro e w' ⟨rfl, rfl⟩) | (go_at_call 128; refine (isDigitL _ _).mono ?_; rintro e w' ⟨rfl, rfl⟩))
                    go_ret
                    exact ⟨by rw [HX.out]; rfl, rfl⟩

def wordB (l : Tx) : Bool := l.all wdq && decide (0 < l.length) && decide (l.length ≤ 8192)
set_option maxRecDepth 4000 in
set_option maxHeartbeats 4000000 in
theorem wordL_c (v : Value) (l : Tx) (w : World) (hv : Bv w v l) : Calls Tryz.prog 75 #[v] w fun e w' => e = .returned (.bool (wordB l)) ∧ w = w' := by
  obtain ⟨A, cc, rfl, h1, h2, h4⟩ := hv
  have h3 := h4.1
  have HR := Lib.hid h4
  clear h4
  go_enter Tryz.func75, Tryz.ntmps75
  go_wp2
  go_loop [3] (fun i => ∃ k : Nat, k ≤ l.length ∧ i = .int .i64 k ∧ (l.take k).all wdq = true) (fun i => l.length - (intOf i).toNat)
  case atStart => exact ⟨0, Nat.zero_le _, rfl, rfl⟩
  case round =>
    obtain ⟨k, hk, rfl, hq⟩ := hrel
    have HQ := Lib.hid hq
    clear hq
    by_cases hlt : k < l.length
    · obtain ⟨b, o, rfl, d1⟩ := HR.out.at_ hlt
      have ci := isWordByte_c l[k] w
      by_cases hp : wdq l[k] = true
      · have HX : Hid ((l.take (k + 1)).all wdq = true) := Lib.hid (by rw [List.take_succ_eq_append_getElem hlt, List.all_append, HQ.out]; simpa using hp)
        have CI := Lib.hid (bool_call ci hp)
        clear ci hp
        generalize (l[k].toNat : Int) = x at d1 CI
        go_wp2_with (go_at_call 108; refine CI.out.mono ?_; rintro e w' ⟨rfl, rfl⟩)
        go_round
        case rel => exact ⟨k + 1, by omega, by go_num, HX.out⟩
        case measure => simp [intOf]; omega
      · have hp' : wdq l[k] = false := by simpa using hp
        have HX : Hid (wordB l = false) := Lib.hid (by unfold wordB; rw [List.all_eq_false.2 ⟨l[k], List.getElem_mem hlt, hp⟩]; rfl)
        have CI := Lib.hid (bool_call ci hp')
        clear ci hp hp'
        generalize (l[k].toNat : Int) = x at d1 CI
        go_wp2_with (go_at_call 108; refine CI.out.mono ?_; rintro e w' ⟨rfl, rfl⟩)
        go_ret
        exact ⟨by rw [HX.out]; rfl, rfl⟩
    · have HA : Hid (l.all wdq = true) := Lib.hid (by have := HQ.out; rw [List.take_of_length_le (by omega)] at this; exact this)
      by_cases h0 : 0 < l.length
      · by_cases hm : l.length ≤ 8192
        · have HX : Hid (wordB l = true) := Lib.hid (by unfold wordB; rw [HA.out, decide_eq_true h0, decide_eq_true hm]; rfl)
          have h0' : (0 : Int) < l.length := by omega
          have hm' : decide ((l.length : Int) ≤ 8192) = true := by simp; omega
          go_wp2
          go_ret
          exact ⟨by rw [HX.out]; rfl, rfl⟩
        · have HX : Hid (wordB l = false) := Lib.hid (by unfold wordB; rw [decide_eq_false hm]; simp)
          have hm' : decide ((l.length : Int) ≤ 8192) = false := by simp; omega
          have h0' : (0 : Int) < l.length := by omega
          go_wp2
          go_ret
          exact ⟨by rw [HX.out]; rfl, rfl⟩
      · have HX : Hid (wordB l = false) := Lib.hid (by unfold wordB; rw [decide_eq_false h0]; simp)
        have hz : l.length = 0 := by omega
        generalize l.length = m at *
        subst hz
        go_wp2
        go_ret
        exact ⟨by rw [HX.out]; rfl, rfl⟩

def usq (c : UInt8) : Bool := isAl c || isNm c || c == 45 || c == 95 || c == 46 || c == 33 || c == 126 || c == 42 || c == 39
def userB (l : Tx) : Bool := l.all usq && decide (0 < l.length) && decide (l.length ≤ 8192)
def hoq (c : UInt8) : Bool := isAl c || isNm c || c == 45 || c == 46
def hostB (l : Tx) : Bool := l.all hoq && decide (0 < l.length) && decide (l.length ≤ 8192)
end Go.Proofs.YtbdeohmdpkkpdaaGreatDoor
