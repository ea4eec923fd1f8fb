/- Contracts: the laws' small functions on bytes and texts (printed by gen_lw.py). Contracts: the laws' isLine, spaces, joined. What came in, before its lengths are known to be small; contracts: zzFits4, zzFits3, zzFits2. Contracts: the laws' small, alike, isOnce, isParams. Contracts: the laws' isParams, isUri. -/
import Derived.Test.YteedhaenbamiaaaGreatDoorSpWb
import Derived.Test.YteedhaenbamiaaaGreatDoorKnown
import Derived.Test.YteedhaenbamiaaaGreatDoorSpWc
set_option linter.unusedVariables false
set_option linter.unusedSimpArgs false
namespace Go.Proofs.YteedhaenbamiaaaGreatDoor
open Go.RowKit

set_option maxHeartbeats 400000 in
theorem isLetterL (c : Int) (w : World) : Calls Tryz.prog 89 #[.int .u8 c] w fun e w' => e = .returned (.bool (alB c)) ∧ w = w' := by
  go_enter Tryz.func89, Tryz.ntmps89
  go_wp2
  all_goals (go_ret; refine ⟨ret_bool (Bool.eq_iff_iff.2 ?_), rfl⟩; simp only [alB, Bool.or_eq_true, Bool.and_eq_true, decide_eq_true_eq, true_iff, true_or, or_true, Bool.false_eq_true, false_iff]; omega)
set_option maxHeartbeats 400000 in
theorem isDigitL (c : Int) (w : World) : Calls Tryz.prog 90 #[.int .u8 c] w fun e w' => e = .returned (.bool (nmB c)) ∧ w = w' := by
  go_enter Tryz.func90, Tryz.ntmps90
  go_wp2
  all_goals (go_ret; refine ⟨ret_bool (Bool.eq_iff_iff.2 ?_), rfl⟩; simp only [nmB, Bool.or_eq_true, Bool.and_eq_true, decide_eq_true_eq, true_iff, true_or, or_true, Bool.false_eq_true, false_iff]; omega)
theorem ne_t {x : UInt8} {n : Nat} (hn : n < 256) (h : ¬ x = UInt8.ofNat n) : ((x.toNat : Int) != (n : Int)) = true := by rw [byte_ne x n hn, decide_eq_false h]; rfl
theorem ne_f {x : UInt8} {n : Nat} (hn : n < 256) (h : x = UInt8.ofNat n) : ((x.toNat : Int) != (n : Int)) = false := by rw [byte_ne x n hn, decide_eq_true h]; rfl
theorem eq_t {x : UInt8} {n : Nat} (hn : n < 256) (h : x = UInt8.ofNat n) : ((x.toNat : Int) == (n : Int)) = true := by rw [byte_eqn x n hn, decide_eq_true h]
theorem eq_f {x : UInt8} {n : Nat} (hn : n < 256) (h : ¬ x = UInt8.ofNat n) : ((x.toNat : Int) == (n : Int)) = false := by rw [byte_eqn x n hn, decide_eq_false h]
theorem al_t {x : UInt8} (h : isAl x = true) : alB (x.toNat : Int) = true := by rw [alB_byte]; exact h
theorem al_f {x : UInt8} (h : ¬ isAl x = true) : alB (x.toNat : Int) = false := by rw [alB_byte]; simpa using h
theorem nm_t {x : UInt8} (h : isNm x = true) : nmB (x.toNat : Int) = true := by rw [nmB_byte]; exact h
theorem nm_f {x : UInt8} (h : ¬ isNm x = true) : nmB (x.toNat : Int) = false := by rw [nmB_byte]; simpa using h

def wdq (c : UInt8) : Bool := isAl c || isNm c || c == 45 || c == 46 || c == 33 || c == 42 || c == 95 || c == 43 || c == 126
set_option maxHeartbeats 1000000 in
theorem isWordByte_c (c : UInt8) (w : World) : Calls Tryz.prog 66 #[.int .u8 (c.toNat : Int)] w fun e w' => e = .returned (.bool (wdq c)) ∧ w = w' := by
  by_cases c0 : isAl c = true
  · have f0 : alB ((c).toNat : Int) = true := al_t c0
    have HX : Hid (wdq c = true) := Lib.hid (by unfold wdq; simp [c0])
    clear c0
    generalize (c.toNat : Int) = x at f0 ⊢
    go_enter Tryz.func66, Tryz.ntmps66
    go_wp2_with (first | (go_at_call 89; refine (isLetterL _ _).mono ?_; rintro e w' ⟨rfl, rfl⟩) | (go_at_call 90; refine (isDigitL _ _).mono ?_; rintro e w' ⟨rfl, rfl⟩))
    go_ret
    exact ⟨by rw [HX.out]; rfl, rfl⟩
  · skip
    by_cases c1 : isNm c = true
    · have f0 : alB ((c).toNat : Int) = false := al_f c0
      have f1 : nmB ((c).toNat : Int) = true := nm_t c1
      have HX : Hid (wdq c = true) := Lib.hid (by unfold wdq; simp [c1])
      clear c0 c1
      generalize (c.toNat : Int) = x at f0 f1 ⊢
      go_enter Tryz.func66, Tryz.ntmps66
      go_wp2_with (first | (go_at_call 89; refine (isLetterL _ _).mono ?_; rintro e w' ⟨rfl, rfl⟩) | (go_at_call 90; refine (isDigitL _ _).mono ?_; rintro e w' ⟨rfl, rfl⟩))
      go_ret
      exact ⟨by rw [HX.out]; rfl, rfl⟩
    · skip
      by_cases c2 : c = 45
      · have f0 : alB ((c).toNat : Int) = false := al_f c0
        have f1 : nmB ((c).toNat : Int) = false := nm_f c1
        have f2 : (((c).toNat : Int) == 45) = true := eq_t (n := 45) (by omega) c2
        have HX : Hid (wdq c = true) := Lib.hid (by unfold wdq; simp [c2])
        clear c0 c1 c2
        generalize (c.toNat : Int) = x at f0 f1 f2 ⊢
        go_enter Tryz.func66, Tryz.ntmps66
        go_wp2_with (first | (go_at_call 89; refine (isLetterL _ _).mono ?_; rintro e w' ⟨rfl, rfl⟩) | (go_at_call 90; refine (isDigitL _ _).mono ?_; rintro e w' ⟨rfl, rfl⟩))
        go_ret
        exact ⟨by rw [HX.out]; rfl, rfl⟩
      · skip
        by_cases c3 : c = 46
        · have f0 : alB ((c).toNat : Int) = false := al_f c0
          have f1 : nmB ((c).toNat : Int) = false := nm_f c1
          have f2 : (((c).toNat : Int) == 45) = false := eq_f (n := 45) (by omega) c2
          have f3 : (((c).toNat : Int) == 46) = true := eq_t (n := 46) (by omega) c3
          have HX : Hid (wdq c = true) := Lib.hid (by unfold wdq; simp [c3])
          clear c0 c1 c2 c3
          generalize (c.toNat : Int) = x at f0 f1 f2 f3 ⊢
          go_enter Tryz.func66, Tryz.ntmps66
          go_wp2_with (first | (go_at_call 89; refine (isLetterL _ _).mono ?_; rintro e w' ⟨rfl, rfl⟩) | (go_at_call 90; refine (isDigitL _ _).mono ?_; rintro e w' ⟨rfl, rfl⟩))
          go_ret
          exact ⟨by rw [HX.out]; rfl, rfl⟩
        · skip
          by_cases c4 : c = 33
          · have f0 : alB ((c).toNat : Int) = false := al_f c0
            have f1 : nmB ((c).toNat : Int) = false := nm_f c1
            have f2 : (((c).toNat : Int) == 45) = false := eq_f (n := 45) (by omega) c2
            have f3 : (((c).toNat : Int) == 46) = false := eq_f (n := 46) (by omega) c3
            have f4 : (((c).toNat : Int) == 33) = true := eq_t (n := 33) (by omega) c4
            have HX : Hid (wdq c = true) := Lib.hid (by unfold wdq; simp [c4])
            clear c0 c1 c2 c3 c4
            generalize (c.toNat : Int) = x at f0 f1 f2 f3 f4 ⊢
            go_enter Tryz.func66, Tryz.ntmps66
            go_wp2_with (first | (go_at_call 89; refine (isLetterL _ _).mono ?_; rintro e w' ⟨rfl, rfl⟩) | (go_at_call 90; refine (isDigitL _ _).mono ?_; rintro e w' ⟨rfl, rfl⟩))
            go_ret
            exact ⟨by rw [HX.out]; rfl, rfl⟩
          · skip
            by_cases c5 : c = 42
            · have f0 : alB ((c).toNat : Int) = false := al_f c0
              have f1 : nmB ((c).toNat : Int) = false := nm_f c1
              have f2 : (((c).toNat : Int) == 45) = false := eq_f (n := 45) (by omega) c2
              have f3 : (((c).toNat : Int) == 46) = false := eq_f (n := 46) (by omega) c3
              have f4 : (((c).toNat : Int) == 33) = false := eq_f (n := 33) (by omega) c4
              have f5 : (((c).toNat : Int) == 42) = true := eq_t (n := 42) (by omega) c5
              have HX : Hid (wdq c = true) := Lib.hid (by unfold wdq; simp [c5])
              clear c0 c1 c2 c3 c4 c5
              generalize (c.toNat : Int) = x at f0 f1 f2 f3 f4 f5 ⊢
              go_enter Tryz.func66, Tryz.ntmps66
              go_wp2_with (first | (go_at_call 89; refine (isLetterL _ _).mono ?_; rintro e w' ⟨rfl, rfl⟩) | (go_at_call 90; refine (isDigitL _ _).mono ?_; rintro e w' ⟨rfl, rfl⟩))
              go_ret
              exact ⟨by rw [HX.out]; rfl, rfl⟩
            · skip
              by_cases c6 : c = 95
              · have f0 : alB ((c).toNat : Int) = false := al_f c0
                have f1 : nmB ((c).toNat : Int) = false := nm_f c1
                have f2 : (((c).toNat : Int) == 45) = false := eq_f (n := 45) (by omega) c2
                have f3 : (((c).toNat : Int) == 46) = false := eq_f (n := 46) (by omega) c3
                have f4 : (((c).toNat : Int) == 33) = false := eq_f (n := 33) (by omega) c4
                have f5 : (((c).toNat : Int) == 42) = false := eq_f (n := 42) (by omega) c5
                have f6 : (((c).toNat : Int) == 95) = true := eq_t (n := 95) (by omega) c6
                have HX : Hid (wdq c = true) := Lib.hid (by unfold wdq; simp [c6])
                clear c0 c1 c2 c3 c4 c5 c6
                generalize (c.toNat : Int) = x at f0 f1 f2 f3 f4 f5 f6 ⊢
                go_enter Tryz.func66, Tryz.ntmps66
                go_wp2_with (first | (go_at_call 89; refine (isLetterL _ _).mono ?_; rintro e w' ⟨rfl, rfl⟩) | (go_at_call 90; refine (isDigitL _ _).mono ?_; rintro e w' ⟨rfl, rfl⟩))
                go_ret
                exact ⟨by rw [HX.out]; rfl, rfl⟩
              · skip
                by_cases c7 : c = 43
                · have f0 : alB ((c).toNat : Int) = false := al_f c0
                  have f1 : nmB ((c).toNat : Int) = false := nm_f c1
                  have f2 : (((c).toNat : Int) == 45) = false := eq_f (n := 45) (by omega) c2
                  have f3 : (((c).toNat : Int) == 46) = false := eq_f (n := 46) (by omega) c3
                  have f4 : (((c).toNat : Int) == 33) = false := eq_f (n := 33) (by omega) c4
                  have f5 : (((c).toNat : Int) == 42) = false := eq_f (n := 42) (by omega) c5
                  have f6 : (((c).toNat : Int) == 95) = false := eq_f (n := 95) (by omega) c6
                  have f7 : (((c).toNat : Int) == 43) = true := eq_t (n := 43) (by omega) c7
                  have HX : Hid (wdq c = true) := Lib.hid (by unfold wdq; simp [c7])
                  clear c0 c1 c2 c3 c4 c5 c6 c7
                  generalize (c.toNat : Int) = x at f0 f1 f2 f3 f4 f5 f6 f7 ⊢
                  go_enter Tryz.func66, Tryz.ntmps66
                  go_wp2_with (first | (go_at_call 89; refine (isLetterL _ _).mono ?_; rintro e w' ⟨rfl, rfl⟩) | (go_at_call 90; refine (isDigitL _ _).mono ?_; rintro e w' ⟨rfl, rfl⟩))
                  go_ret
                  exact ⟨by rw [HX.out]; rfl, rfl⟩
                · skip
                  by_cases c8 : c = 126
                  · have f0 : alB ((c).toNat : Int) = false := al_f c0
                    have f1 : nmB ((c).toNat : Int) = false := nm_f c1
                    have f2 : (((c).toNat : Int) == 45) = false := eq_f (n := 45) (by omega) c2
                    have f3 : (((c).toNat : Int) == 46) = false := eq_f (n := 46) (by omega) c3
                    have f4 : (((c).toNat : Int) == 33) = false := eq_f (n := 33) (by omega) c4
                    have f5 : (((c).toNat : Int) == 42) = false := eq_f (n := 42) (by omega) c5
                    have f6 : (((c).toNat : Int) == 95) = false := eq_f (n := 95) (by omega) c6
                    have f7 : (((c).toNat : Int) == 43) = false := eq_f (n := 43) (by omega) c7
                    have f8 : (((c).toNat : Int) == 126) = true := eq_t (n := 126) (by omega) c8
                    have HX : Hid (wdq c = true) := Lib.hid (by unfold wdq; simp [c8])
                    clear c0 c1 c2 c3 c4 c5 c6 c7 c8
                    generalize (c.toNat : Int) = x at f0 f1 f2 f3 f4 f5 f6 f7 f8 ⊢
                    go_enter Tryz.func66, Tryz.ntmps66
                    go_wp2_with (first | (go_at_call 89; refine (isLetterL _ _).mono ?_; rintro e w' ⟨rfl, rfl⟩) | (go_at_call 90; refine (isDigitL _ _).mono ?_; rintro e w' ⟨rfl, rfl⟩))
                    go_ret
                    exact ⟨by rw [HX.out]; rfl, rfl⟩
                  · have f0 : alB ((c).toNat : Int) = false := al_f c0
                    have f1 : nmB ((c).toNat : Int) = false := nm_f c1
                    have f2 : (((c).toNat : Int) == 45) = false := eq_f (n := 45) (by omega) c2
                    have f3 : (((c).toNat : Int) == 46) = false := eq_f (n := 46) (by omega) c3
                    have f4 : (((c).toNat : Int) == 33) = false := eq_f (n := 33) (by omega) c4
                    have f5 : (((c).toNat : Int) == 42) = false := eq_f (n := 42) (by omega) c5
                    have f6 : (((c).toNat : Int) == 95) = false := eq_f (n := 95) (by omega) c6
                    have f7 : (((c).toNat : Int) == 43) = false := eq_f (n := 43) (by omega) c7
                    have f8 : (((c).toNat : Int) == 126) = false := eq_f (n := 126) (by omega) c8
                    have HX : Hid (wdq c = false) := Lib.hid (by unfold wdq; simp [c0, c1, c2, c3, c4, c5, c6, c7, c8])
                    clear c0 c1 c2 c3 c4 c5 c6 c7 c8
                    generalize (c.toNat : Int) = x at f0 f1 f2 f3 f4 f5 f6 f7 f8 ⊢
                    go_enter Tryz.func66, Tryz.ntmps66
                    go_wp2_with (first | (go_at_call 89; refine (isLetterL _ _).mono ?_; rintro e w' ⟨rfl, rfl⟩) | (go_at_call 90; refine (isDigitL _ _).mono ?_; rintro e w' ⟨rfl, rfl⟩))
                    go_ret
                    exact ⟨by rw [HX.out]; rfl, rfl⟩

def wordB (l : Tx) : Bool := l.all wdq && decide (0 < l.length) && decide (l.length ≤ 8192)
set_option maxRecDepth 4000 in
set_option maxHeartbeats 4000000 in
theorem wordL_c (v : Value) (l : Tx) (w : World) (hv : Bv w v l) : Calls Tryz.prog 29 #[v] w fun e w' => e = .returned (.bool (wordB l)) ∧ w = w' := by
  obtain ⟨A, cc, rfl, h1, h2, h4⟩ := hv
  have h3 := h4.1
  have HR := Lib.hid h4
  clear h4
  go_enter Tryz.func29, Tryz.ntmps29
  go_wp2
  go_loop [3] (fun i => ∃ k : Nat, k ≤ l.length ∧ i = .int .i64 k ∧ (l.take k).all wdq = true) (fun i => l.length - (intOf i).toNat)
  case atStart => exact ⟨0, Nat.zero_le _, rfl, rfl⟩
  case round =>
    obtain ⟨k, hk, rfl, hq⟩ := hrel
    have HQ := Lib.hid hq
    clear hq
    by_cases hlt : k < l.length
    · obtain ⟨b, o, rfl, d1⟩ := HR.out.at_ hlt
      have ci := isWordByte_c l[k] w
      by_cases hp : wdq l[k] = true
      · have HX : Hid ((l.take (k + 1)).all wdq = true) := Lib.hid (by rw [List.take_succ_eq_append_getElem hlt, List.all_append, HQ.out]; simpa using hp)
        have CI := Lib.hid (bool_call ci hp)
        clear ci hp
        generalize (l[k].toNat : Int) = x at d1 CI
        go_wp2_with (go_at_call 66; refine CI.out.mono ?_; rintro e w' ⟨rfl, rfl⟩)
        go_round
        case rel => exact ⟨k + 1, by omega, by go_num, HX.out⟩
        case measure => simp [intOf]; omega
      · have hp' : wdq l[k] = false := by simpa using hp
        have HX : Hid (wordB l = false) := Lib.hid (by unfold wordB; rw [List.all_eq_false.2 ⟨l[k], List.getElem_mem hlt, hp⟩]; rfl)
        have CI := Lib.hid (bool_call ci hp')
        clear ci hp hp'
        generalize (l[k].toNat : Int) = x at d1 CI
        go_wp2_with (go_at_call 66; refine CI.out.mono ?_; rintro e w' ⟨rfl, rfl⟩)
        go_ret
        exact ⟨by rw [HX.out]; rfl, rfl⟩
    · have HA : Hid (l.all wdq = true) := Lib.hid (by have := HQ.out; rw [List.take_of_length_le (by omega)] at this; exact this)
      by_cases h0 : 0 < l.length
      · by_cases hm : l.length ≤ 8192
        · have HX : Hid (wordB l = true) := Lib.hid (by unfold wordB; rw [HA.out, decide_eq_true h0, decide_eq_true hm]; rfl)
          have h0' : (0 : Int) < l.length := by omega
          have hm' : decide ((l.length : Int) ≤ 8192) = true := by simp; omega
          go_wp2
          go_ret
          exact ⟨by rw [HX.out]; rfl, rfl⟩
        · have HX : Hid (wordB l = false) := Lib.hid (by unfold wordB; rw [decide_eq_false hm]; simp)
          have hm' : decide ((l.length : Int) ≤ 8192) = false := by simp; omega
          have h0' : (0 : Int) < l.length := by omega
          go_wp2
          go_ret
          exact ⟨by rw [HX.out]; rfl, rfl⟩
      · have HX : Hid (wordB l = false) := Lib.hid (by unfold wordB; rw [decide_eq_false h0]; simp)
        have hz : l.length = 0 := by omega
        generalize l.length = m at *
        subst hz
        go_wp2
        go_ret
        exact ⟨by rw [HX.out]; rfl, rfl⟩

def usq (c : UInt8) : Bool := isAl c || isNm c || c == 45 || c == 95 || c == 46 || c == 33 || c == 126 || c == 42 || c == 39
def userB (l : Tx) : Bool := l.all usq && decide (0 < l.length) && decide (l.length ≤ 8192)
set_option maxRecDepth 4000 in
set_option maxHeartbeats 4000000 in
theorem userL_c (v : Value) (l : Tx) (w : World) (hv : Bv w v l) : Calls Tryz.prog 61 #[v] w fun e w' => e = .returned (.bool (userB l)) ∧ w = w' := by
  obtain ⟨A, cc, rfl, h1, h2, h4⟩ := hv
  have h3 := h4.1
  have HR := Lib.hid h4
  clear h4
  go_enter Tryz.func61, Tryz.ntmps61
  go_wp2
  go_loop [3] (fun i => ∃ k : Nat, k ≤ l.length ∧ i = .int .i64 k ∧ (l.take k).all usq = true) (fun i => l.length - (intOf i).toNat)
  case atStart => exact ⟨0, Nat.zero_le _, rfl, rfl⟩
  case round =>
    obtain ⟨k, hk, rfl, hq⟩ := hrel
    have HQ := Lib.hid hq
    clear hq
    by_cases hlt : k < l.length
    · obtain ⟨b, o, rfl, d1⟩ := HR.out.at_ hlt
      by_cases c0 : isAl l[k] = true
      · have f0 : alB ((l[k]).toNat : Int) = true := al_t c0
        have hp : usq l[k] = true := by unfold usq; simp [c0]
        have HX : Hid ((l.take (k + 1)).all usq = true) := Lib.hid (by rw [List.take_succ_eq_append_getElem hlt, List.all_append, HQ.out]; simpa using hp)
        clear hp c0
        generalize (l[k].toNat : Int) = x at d1 f0
        go_wp2_with (first | (go_at_call 89; refine (isLetterL _ _).mono ?_; rintro e w' ⟨rfl, rfl⟩) | (go_at_call 90; refine (isDigitL _ _).mono ?_; rintro e w' ⟨rfl, rfl⟩))
        go_round
        case rel => exact ⟨k + 1, by omega, by go_num, HX.out⟩
        case measure => simp [intOf]; omega
      · skip
        by_cases c1 : isNm l[k] = true
        · have f0 : alB ((l[k]).toNat : Int) = false := al_f c0
          have f1 : nmB ((l[k]).toNat : Int) = true := nm_t c1
          have hp : usq l[k] = true := by unfold usq; simp [c1]
          have HX : Hid ((l.take (k + 1)).all usq = true) := Lib.hid (by rw [List.take_succ_eq_append_getElem hlt, List.all_append, HQ.out]; simpa using hp)
          clear hp c0 c1
          generalize (l[k].toNat : Int) = x at d1 f0 f1
          go_wp2_with (first | (go_at_call 89; refine (isLetterL _ _).mono ?_; rintro e w' ⟨rfl, rfl⟩) | (go_at_call 90; refine (isDigitL _ _).mono ?_; rintro e w' ⟨rfl, rfl⟩))
          go_round
          case rel => exact ⟨k + 1, by omega, by go_num, HX.out⟩
          case measure => simp [intOf]; omega
        · skip
          by_cases c2 : l[k] = 45
          · have f0 : alB ((l[k]).toNat : Int) = false := al_f c0
            have f1 : nmB ((l[k]).toNat : Int) = false := nm_f c1
            have f2 : (((l[k]).toNat : Int) != 45) = false := ne_f (n := 45) (by omega) c2
            have hp : usq l[k] = true := by unfold usq; simp [c2]
            have HX : Hid ((l.take (k + 1)).all usq = true) := Lib.hid (by rw [List.take_succ_eq_append_getElem hlt, List.all_append, HQ.out]; simpa using hp)
            clear hp c0 c1 c2
            generalize (l[k].toNat : Int) = x at d1 f0 f1 f2
            go_wp2_with (first | (go_at_call 89; refine (isLetterL _ _).mono ?_; rintro e w' ⟨rfl, rfl⟩) | (go_at_call 90; refine (isDigitL _ _).mono ?_; rintro e w' ⟨rfl, rfl⟩))
            go_round
            case rel => exact ⟨k + 1, by omega, by go_num, HX.out⟩
            case measure => simp [intOf]; omega
          · skip
            by_cases c3 : l[k] = 95
            · have f0 : alB ((l[k]).toNat : Int) = false := al_f c0
              have f1 : nmB ((l[k]).toNat : Int) = false := nm_f c1
              have f2 : (((l[k]).toNat : Int) != 45) = true := ne_t (n := 45) (by omega) c2
              have f3 : (((l[k]).toNat : Int) != 95) = false := ne_f (n := 95) (by omega) c3
              have hp : usq l[k] = true := by unfold usq; simp [c3]
              have HX : Hid ((l.take (k + 1)).all usq = true) := Lib.hid (by rw [List.take_succ_eq_append_getElem hlt, List.all_append, HQ.out]; simpa using hp)
              clear hp c0 c1 c2 c3
              generalize (l[k].toNat : Int) = x at d1 f0 f1 f2 f3
              go_wp2_with (first | (go_at_call 89; refine (isLetterL _ _).mono ?_; rintro e w' ⟨rfl, rfl⟩) | (go_at_call 90; refine (isDigitL _ _).mono ?_; rintro e w' ⟨rfl, rfl⟩))
              go_round
              case rel => exact ⟨k + 1, by omega, by go_num, HX.out⟩
              case measure => simp [intOf]; omega
            · skip
              by_cases c4 : l[k] = 46
              · have f0 : alB ((l[k]).toNat : Int) = false := al_f c0
                have f1 : nmB ((l[k]).toNat : Int) = false := nm_f c1
                have f2 : (((l[k]).toNat : Int) != 45) = true := ne_t (n := 45) (by omega) c2
                have f3 : (((l[k]).toNat : Int) != 95) = true := ne_t (n := 95) (by omega) c3
                have f4 : (((l[k]).toNat : Int) != 46) = false := ne_f (n := 46) (by omega) c4
                have hp : usq l[k] = true := by unfold usq; simp [c4]
                have HX : Hid ((l.take (k + 1)).all usq = true) := Lib.hid (by rw [List.take_succ_eq_append_getElem hlt, List.all_append, HQ.out]; simpa using hp)
                clear hp c0 c1 c2 c3 c4
                generalize (l[k].toNat : Int) = x at d1 f0 f1 f2 f3 f4
                go_wp2_with (first | (go_at_call 89; refine (isLetterL _ _).mono ?_; rintro e w' ⟨rfl, rfl⟩) | (go_at_call 90; refine (isDigitL _ _).mono ?_; rintro e w' ⟨rfl, rfl⟩))
                go_round
                case rel => exact ⟨k + 1, by omega, by go_num, HX.out⟩
                case measure => simp [intOf]; omega
              · skip
                by_cases c5 : l[k] = 33
                · have f0 : alB ((l[k]).toNat : Int) = false := al_f c0
                  have f1 : nmB ((l[k]).toNat : Int) = false := nm_f c1
                  have f2 : (((l[k]).toNat : Int) != 45) = true := ne_t (n := 45) (by omega) c2
                  have f3 : (((l[k]).toNat : Int) != 95) = true := ne_t (n := 95) (by omega) c3
                  have f4 : (((l[k]).toNat : Int) != 46) = true := ne_t (n := 46) (by omega) c4
                  have f5 : (((l[k]).toNat : Int) != 33) = false := ne_f (n := 33) (by omega) c5
                  have hp : usq l[k] = true := by unfold usq; simp [c5]
                  have HX : Hid ((l.take (k + 1)).all usq = true) := Lib.hid (by rw [List.take_succ_eq_append_getElem hlt, List.all_append, HQ.out]; simpa using hp)
                  clear hp c0 c1 c2 c3 c4 c5
                  generalize (l[k].toNat : Int) = x at d1 f0 f1 f2 f3 f4 f5
                  go_wp2_with (first | (go_at_call 89; refine (isLetterL _ _).mono ?_; rintro e w' ⟨rfl, rfl⟩) | (go_at_call 90; refine (isDigitL _ _).mono ?_; rintro e w' ⟨rfl, rfl⟩))
                  go_round
                  case rel => exact ⟨k + 1, by omega, by go_num, HX.out⟩
                  case measure => simp [intOf]; omega
                · skip
                  by_cases c6 : l[k] = 126
                  · have f0 : alB ((l[k]).toNat : Int) = false := al_f c0
                    have f1 : nmB ((l[k]).toNat : Int) = false := nm_f c1
                    have f2 : (((l[k]).toNat : Int) != 45) = true := ne_t (n := 45) (by omega) c2
                    have f3 : (((l[k]).toNat : Int) != 95) = true := ne_t (n := 95) (by omega) c3
                    have f4 : (((l[k]).toNat : Int) != 46) = true := ne_t (n := 46) (by omega) c4
                    have f5 : (((l[k]).toNat : Int) != 33) = true := ne_t (n := 33) (by omega) c5
                    have f6 : (((l[k]).toNat : Int) != 126) = false := ne_f (n := 126) (by omega) c6
                    have hp : usq l[k] = true := by unfold usq; simp [c6]
                    have HX : Hid ((l.take (k + 1)).all usq = true) := Lib.hid (by rw [List.take_succ_eq_append_getElem hlt, List.all_append, HQ.out]; simpa using hp)
                    clear hp c0 c1 c2 c3 c4 c5 c6
                    generalize (l[k].toNat : Int) = x at d1 f0 f1 f2 f3 f4 f5 f6
                    go_wp2_with (first | (go_at_call 89; refine (isLetterL _ _).mono ?_; rintro e w' ⟨rfl, rfl⟩) | (go_at_call 90; refine (isDigitL _ _).mono ?_; rintro e w' ⟨rfl, rfl⟩))
                    go_round
                    case rel => exact ⟨k + 1, by omega, by go_num, HX.out⟩
                    case measure => simp [intOf]; omega
                  · skip
                    by_cases c7 : l[k] = 42
                    · have f0 : alB ((l[k]).toNat : Int) = false := al_f c0
                      have f1 : nmB ((l[k]).toNat : Int) = false := nm_f c1
                      have f2 : (((l[k]).toNat : Int) != 45) = true := ne_t (n := 45) (by omega) c2
                      have f3 : (((l[k]).toNat : Int) != 95) = true := ne_t (n := 95) (by omega) c3
                      have f4 : (((l[k]).toNat : Int) != 46) = true := ne_t (n := 46) (by omega) c4
                      have f5 : (((l[k]).toNat : Int) != 33) = true := ne_t (n := 33) (by omega) c5
                      have f6 : (((l[k]).toNat : Int) != 126) = true := ne_t (n := 126) (by omega) c6
                      have f7 : (((l[k]).toNat : Int) != 42) = false := ne_f (n := 42) (by omega) c7
                      have hp : usq l[k] = true := by unfold usq; simp [c7]
                      have HX : Hid ((l.take (k + 1)).all usq = true) := Lib.hid (by rw [List.take_succ_eq_append_getElem hlt, List.all_append, HQ.out]; simpa using hp)
                      clear hp c0 c1 c2 c3 c4 c5 c6 c7
                      generalize (l[k].toNat : Int) = x at d1 f0 f1 f2 f3 f4 f5 f6 f7
                      go_wp2_with (first | (go_at_call 89; refine (isLetterL _ _).mono ?_; rintro e w' ⟨rfl, rfl⟩) | (go_at_call 90; refine (isDigitL _ _).mono ?_; rintro e w' ⟨rfl, rfl⟩))
                      go_round
                      case rel => exact ⟨k + 1, by omega, by go_num, HX.out⟩
                      case measure => simp [intOf]; omega
                    · skip
                      by_cases c8 : l[k] = 39
                      · have f0 : alB ((l[k]).toNat : Int) = false := al_f c0
                        have f1 : nmB ((l[k]).toNat : Int) = false := nm_f c1
                        have f2 : (((l[k]).toNat : Int) != 45) = true := ne_t (n := 45) (by omega) c2
                        have f3 : (((l[k]).toNat : Int) != 95) = true := ne_t (n := 95) (by omega) c3
                        have f4 : (((l[k]).toNat : Int) != 46) = true := ne_t (n := 46) (by omega) c4
                        have f5 : (((l[k]).toNat : Int) != 33) = true := ne_t (n := 33) (by omega) c5
                        have f6 : (((l[k]).toNat : Int) != 126) = true := ne_t (n := 126) (by omega) c6
                        have f7 : (((l[k]).toNat : Int) != 42) = true := ne_t (n := 42) (by omega) c7
                        have f8 : (((l[k]).toNat : Int) != 39) = false := ne_f (n := 39) (by omega) c8
                        have hp : usq l[k] = true := by unfold usq; simp [c8]
                        have HX : Hid ((l.take (k + 1)).all usq = true) := Lib.hid (by rw [List.take_succ_eq_append_getElem hlt, List.all_append, HQ.out]; simpa using hp)
                        clear hp c0 c1 c2 c3 c4 c5 c6 c7 c8
                        generalize (l[k].toNat : Int) = x at d1 f0 f1 f2 f3 f4 f5 f6 f7 f8
                        go_wp2_with (first | (go_at_call 89; refine (isLetterL _ _).mono ?_; rintro e w' ⟨rfl, rfl⟩) | (go_at_call 90; refine (isDigitL _ _).mono ?_; rintro e w' ⟨rfl, rfl⟩))
                        go_round
                        case rel => exact ⟨k + 1, by omega, by go_num, HX.out⟩
                        case measure => simp [intOf]; omega
                      · have f0 : alB ((l[k]).toNat : Int) = false := al_f c0
                        have f1 : nmB ((l[k]).toNat : Int) = false := nm_f c1
                        have f2 : (((l[k]).toNat : Int) != 45) = true := ne_t (n := 45) (by omega) c2
                        have f3 : (((l[k]).toNat : Int) != 95) = true := ne_t (n := 95) (by omega) c3
                        have f4 : (((l[k]).toNat : Int) != 46) = true := ne_t (n := 46) (by omega) c4
                        have f5 : (((l[k]).toNat : Int) != 33) = true := ne_t (n := 33) (by omega) c5
                        have f6 : (((l[k]).toNat : Int) != 126) = true := ne_t (n := 126) (by omega) c6
                        have f7 : (((l[k]).toNat : Int) != 42) = true := ne_t (n := 42) (by omega) c7
                        have f8 : (((l[k]).toNat : Int) != 39) = true := ne_t (n := 39) (by omega) c8
                        have hp : usq l[k] = false := by unfold usq; simp [c0, c1, c2, c3, c4, c5, c6, c7, c8]
                        have HX : Hid (userB l = false) := Lib.hid (by unfold userB; rw [List.all_eq_false.2 ⟨l[k], List.getElem_mem hlt, by rw [hp]; simp⟩]; rfl)
                        clear hp c0 c1 c2 c3 c4 c5 c6 c7 c8
                        generalize (l[k].toNat : Int) = x at d1 f0 f1 f2 f3 f4 f5 f6 f7 f8
                        go_wp2_with (first | (go_at_call 89; refine (isLetterL _ _).mono ?_; rintro e w' ⟨rfl, rfl⟩) | (go_at_call 90; refine (isDigitL _ _).mono ?_; rintro e w' ⟨rfl, rfl⟩))
                        go_ret
                        exact ⟨by rw [HX.out]; rfl, rfl⟩
    · have HA : Hid (l.all usq = true) := Lib.hid (by have := HQ.out; rw [List.take_of_length_le (by omega)] at this; exact this)
      by_cases h0 : 0 < l.length
      · by_cases hm : l.length ≤ 8192
        · have HX : Hid (userB l = true) := Lib.hid (by unfold userB; rw [HA.out, decide_eq_true h0, decide_eq_true hm]; rfl)
          have h0' : (0 : Int) < l.length := by omega
          have hm' : decide ((l.length : Int) ≤ 8192) = true := by simp; omega
          go_wp2
          go_ret
          exact ⟨by rw [HX.out]; rfl, rfl⟩
        · have HX : Hid (userB l = false) := Lib.hid (by unfold userB; rw [decide_eq_false hm]; simp)
          have hm' : decide ((l.length : Int) ≤ 8192) = false := by simp; omega
          have h0' : (0 : Int) < l.length := by omega
          go_wp2
          go_ret
          exact ⟨by rw [HX.out]; rfl, rfl⟩
      · have HX : Hid (userB l = false) := Lib.hid (by unfold userB; rw [decide_eq_false h0]; simp)
        have hz : l.length = 0 := by omega
        generalize l.length = m at *
        subst hz
        go_wp2
        go_ret
        exact ⟨by rw [HX.out]; rfl, rfl⟩

def hoq (c : UInt8) : Bool := isAl c || isNm c || c == 45 || c == 46
def hostB (l : Tx) : Bool := l.all hoq && decide (0 < l.length) && decide (l.length ≤ 8192)
set_option maxRecDepth 4000 in
set_option maxHeartbeats 4000000 in
theorem hostL_c (v : Value) (l : Tx) (w : World) (hv : Bv w v l) : Calls Tryz.prog 60 #[v] w fun e w' => e = .returned (.bool (hostB l)) ∧ w = w' := by
  obtain ⟨A, cc, rfl, h1, h2, h4⟩ := hv
  have h3 := h4.1
  have HR := Lib.hid h4
  clear h4
  go_enter Tryz.func60, Tryz.ntmps60
  go_wp2
  go_loop [3] (fun i => ∃ k : Nat, k ≤ l.length ∧ i = .int .i64 k ∧ (l.take k).all hoq = true) (fun i => l.length - (intOf i).toNat)
  case atStart => exact ⟨0, Nat.zero_le _, rfl, rfl⟩
  case round =>
    obtain ⟨k, hk, rfl, hq⟩ := hrel
    have HQ := Lib.hid hq
    clear hq
    by_cases hlt : k < l.length
    · obtain ⟨b, o, rfl, d1⟩ := HR.out.at_ hlt
      by_cases c0 : isAl l[k] = true
      · have f0 : alB ((l[k]).toNat : Int) = true := al_t c0
        have hp : hoq l[k] = true := by unfold hoq; simp [c0]
        have HX : Hid ((l.take (k + 1)).all hoq = true) := Lib.hid (by rw [List.take_succ_eq_append_getElem hlt, List.all_append, HQ.out]; simpa using hp)
        clear hp c0
        generalize (l[k].toNat : Int) = x at d1 f0
        go_wp2_with (first | (go_at_call 89; refine (isLetterL _ _).mono ?_; rintro e w' ⟨rfl, rfl⟩) | (go_at_call 90; refine (isDigitL _ _).mono ?_; rintro e w' ⟨rfl, rfl⟩))
        go_round
        case rel => exact ⟨k + 1, by omega, by go_num, HX.out⟩
        case measure => simp [intOf]; omega
      · skip
        by_cases c1 : isNm l[k] = true
        · have f0 : alB ((l[k]).toNat : Int) = false := al_f c0
          have f1 : nmB ((l[k]).toNat : Int) = true := nm_t c1
          have hp : hoq l[k] = true := by unfold hoq; simp [c1]
          have HX : Hid ((l.take (k + 1)).all hoq = true) := Lib.hid (by rw [List.take_succ_eq_append_getElem hlt, List.all_append, HQ.out]; simpa using hp)
          clear hp c0 c1
          generalize (l[k].toNat : Int) = x at d1 f0 f1
          go_wp2_with (first | (go_at_call 89; refine (isLetterL _ _).mono ?_; rintro e w' ⟨rfl, rfl⟩) | (go_at_call 90; refine (isDigitL _ _).mono ?_; rintro e w' ⟨rfl, rfl⟩))
          go_round
          case rel => exact ⟨k + 1, by omega, by go_num, HX.out⟩
          case measure => simp [intOf]; omega
        · skip
          by_cases c2 : l[k] = 45
          · have f0 : alB ((l[k]).toNat : Int) = false := al_f c0
            have f1 : nmB ((l[k]).toNat : Int) = false := nm_f c1
            have f2 : (((l[k]).toNat : Int) != 45) = false := ne_f (n := 45) (by omega) c2
            have hp : hoq l[k] = true := by unfold hoq; simp [c2]
            have HX : Hid ((l.take (k + 1)).all hoq = true) := Lib.hid (by rw [List.take_succ_eq_append_getElem hlt, List.all_append, HQ.out]; simpa using hp)
            clear hp c0 c1 c2
            generalize (l[k].toNat : Int) = x at d1 f0 f1 f2
            go_wp2_with (first | (go_at_call 89; refine (isLetterL _ _).mono ?_; rintro e w' ⟨rfl, rfl⟩) | (go_at_call 90; refine (isDigitL _ _).mono ?_; rintro e w' ⟨rfl, rfl⟩))
            go_round
            case rel => exact ⟨k + 1, by omega, by go_num, HX.out⟩
            case measure => simp [intOf]; omega
          · skip
            by_cases c3 : l[k] = 46
            · have f0 : alB ((l[k]).toNat : Int) = false := al_f c0
              have f1 : nmB ((l[k]).toNat : Int) = false := nm_f c1
              have f2 : (((l[k]).toNat : Int) != 45) = true := ne_t (n := 45) (by omega) c2
              have f3 : (((l[k]).toNat : Int) != 46) = false := ne_f (n := 46) (by omega) c3
              have hp : hoq l[k] = true := by unfold hoq; simp [c3]
              have HX : Hid ((l.take (k + 1)).all hoq = true) := Lib.hid (by rw [List.take_succ_eq_append_getElem hlt, List.all_append, HQ.out]; simpa using hp)
              clear hp c0 c1 c2 c3
              generalize (l[k].toNat : Int) = x at d1 f0 f1 f2 f3
              go_wp2_with (first | (go_at_call 89; refine (isLetterL _ _).mono ?_; rintro e w' ⟨rfl, rfl⟩) | (go_at_call 90; refine (isDigitL _ _).mono ?_; rintro e w' ⟨rfl, rfl⟩))
              go_round
              case rel => exact ⟨k + 1, by omega, by go_num, HX.out⟩
              case measure => simp [intOf]; omega
            · have f0 : alB ((l[k]).toNat : Int) = false := al_f c0
              have f1 : nmB ((l[k]).toNat : Int) = false := nm_f c1
              have f2 : (((l[k]).toNat : Int) != 45) = true := ne_t (n := 45) (by omega) c2
              have f3 : (((l[k]).toNat : Int) != 46) = true := ne_t (n := 46) (by omega) c3
              have hp : hoq l[k] = false := by unfold hoq; simp [c0, c1, c2, c3]
              have HX : Hid (hostB l = false) := Lib.hid (by unfold hostB; rw [List.all_eq_false.2 ⟨l[k], List.getElem_mem hlt, by rw [hp]; simp⟩]; rfl)
              clear hp c0 c1 c2 c3
              generalize (l[k].toNat : Int) = x at d1 f0 f1 f2 f3
              go_wp2_with (first | (go_at_call 89; refine (isLetterL _ _).mono ?_; rintro e w' ⟨rfl, rfl⟩) | (go_at_call 90; refine (isDigitL _ _).mono ?_; rintro e w' ⟨rfl, rfl⟩))
              go_ret
              exact ⟨by rw [HX.out]; rfl, rfl⟩
    · have HA : Hid (l.all hoq = true) := Lib.hid (by have := HQ.out; rw [List.take_of_length_le (by omega)] at this; exact this)
      by_cases h0 : 0 < l.length
      · by_cases hm : l.length ≤ 8192
        · have HX : Hid (hostB l = true) := Lib.hid (by unfold hostB; rw [HA.out, decide_eq_true h0, decide_eq_true hm]; rfl)
          have h0' : (0 : Int) < l.length := by omega
          have hm' : decide ((l.length : Int) ≤ 8192) = true := by simp; omega
          go_wp2
          go_ret
          exact ⟨by rw [HX.out]; rfl, rfl⟩
        · have HX : Hid (hostB l = false) := Lib.hid (by unfold hostB; rw [decide_eq_false hm]; simp)
          have hm' : decide ((l.length : Int) ≤ 8192) = false := by simp; omega
          have h0' : (0 : Int) < l.length := by omega
          go_wp2
          go_ret
          exact ⟨by rw [HX.out]; rfl, rfl⟩
      · have HX : Hid (hostB l = false) := Lib.hid (by unfold hostB; rw [decide_eq_false h0]; simp)
        have hz : l.length = 0 := by omega
        generalize l.length = m at *
        subst hz
        go_wp2
        go_ret
        exact ⟨by rw [HX.out]; rfl, rfl⟩
end Go.Proofs.YteedhaenbamiaaaGreatDoor
set_option linter.unusedVariables false
set_option linter.unusedSimpArgs false
namespace Go.Proofs.YteedhaenbamiaaaGreatDoor
open Go.RowKit

/-! ### isLine -/
def lnq (c : UInt8) : Bool := decide (32 ≤ (c.toNat : Int)) && decide ((c.toNat : Int) ≤ 126)
def lineB (l : Tx) : Bool := l.all lnq && decide (0 < l.length) && decide (l.length ≤ 8192) && !decide (l.getD 0 0 = 32) && !decide (l.getD (l.length - 1) 0 = 32)
set_option maxRecDepth 4000 in
set_option maxHeartbeats 4000000 in
theorem isLine_c (v : Value) (l : Tx) (w : World) (hv : Bv w v l) : Calls Tryz.prog 64 #[v] w fun e w' => e = .returned (.bool (lineB l)) ∧ w = w' := by
  obtain ⟨A, cc, rfl, h1, h2, h4⟩ := hv
  have h3 := h4.1
  have HR := Lib.hid h4
  clear h4
  go_enter Tryz.func64, Tryz.ntmps64
  go_wp2
  go_loop [3] (fun i => ∃ k : Nat, k ≤ l.length ∧ i = .int .i64 k ∧ (l.take k).all lnq = true) (fun i => l.length - (intOf i).toNat)
  case atStart => exact ⟨0, Nat.zero_le _, rfl, rfl⟩
  case round =>
    obtain ⟨k, hk, rfl, hq⟩ := hrel
    have HQ := Lib.hid hq
    clear hq
    by_cases hlt : k < l.length
    · obtain ⟨b, o, rfl, d1⟩ := HR.out.at_ hlt
      by_cases n1 : 32 ≤ (l[k].toNat : Int)
      · by_cases n2 : (l[k].toNat : Int) ≤ 126
        · have hp : lnq l[k] = true := by unfold lnq; rw [decide_eq_true n1, decide_eq_true n2]; rfl
          have HX : Hid ((l.take (k + 1)).all lnq = true) := Lib.hid (by rw [List.take_succ_eq_append_getElem hlt, List.all_append, HQ.out]; simpa using hp)
          clear hp
          generalize (l[k].toNat : Int) = x at d1 n1 n2
          go_wp2
          go_round
          case rel => exact ⟨k + 1, by omega, by go_num, HX.out⟩
          case measure => simp [intOf]; omega
        · have hp : lnq l[k] = false := by unfold lnq; rw [decide_eq_false n2]; simp
          have HX : Hid (lineB l = false) := Lib.hid (by unfold lineB; rw [List.all_eq_false.2 ⟨l[k], List.getElem_mem hlt, by rw [hp]; simp⟩]; rfl)
          have n3 : 126 < (l[k].toNat : Int) := by omega
          clear hp n2
          generalize (l[k].toNat : Int) = x at d1 n1 n3
          go_wp2
          go_ret
          exact ⟨by rw [HX.out]; rfl, rfl⟩
      · have hp : lnq l[k] = false := by unfold lnq; rw [decide_eq_false n1]; rfl
        have HX : Hid (lineB l = false) := Lib.hid (by unfold lineB; rw [List.all_eq_false.2 ⟨l[k], List.getElem_mem hlt, by rw [hp]; simp⟩]; rfl)
        have n3 : (l[k].toNat : Int) < 32 := by omega
        clear hp n1
        generalize (l[k].toNat : Int) = x at d1 n3
        go_wp2
        go_ret
        exact ⟨by rw [HX.out]; rfl, rfl⟩
    · have HA : Hid (l.all lnq = true) := Lib.hid (by have := HQ.out; rw [List.take_of_length_le (by omega)] at this; exact this)
      by_cases h0 : 0 < l.length
      · by_cases hm : l.length ≤ 8192
        · obtain ⟨b, o, rfl, d1⟩ := HR.out.at_ h0
          obtain ⟨b', o', e', d2⟩ := HR.out.at_ (k := l.length - 1) (by omega)
          obtain ⟨rfl, rfl⟩ : b = b' ∧ o = o' := by injection e' with e'; injection e' with e1 e2; exact ⟨e1, e2⟩
          clear e'
          have g0 : l.getD 0 0 = l[0] := by rw [List.getD_eq_getElem?_getD, List.getElem?_eq_getElem h0]; rfl
          have g1 : l.getD (l.length - 1) 0 = l[l.length - 1]'(by omega) := by rw [List.getD_eq_getElem?_getD, List.getElem?_eq_getElem (by omega)]; rfl
          have HE : Hid (lineB l = (!decide (l[0] = 32) && !decide (l[l.length - 1]'(by omega) = 32))) := Lib.hid (by unfold lineB; rw [HA.out, decide_eq_true h0, decide_eq_true hm, g0, g1]; rfl)
          have h0' : (0 : Int) < l.length := by omega
          have hm' : decide ((l.length : Int) ≤ 8192) = true := by simp; omega
          rw [Nat.add_zero] at d1
          have HN : Hid (((l.length : Int) - 1).toNat = l.length - 1) := Lib.hid (by omega)
          by_cases c1 : l[0] = 32
          · have f1 : ((l[0].toNat : Int) != 32) = false := ne_f (n := 32) (by omega) c1
            have HX : Hid (lineB l = false) := Lib.hid (by rw [HE.out, decide_eq_true c1]; rfl)
            clear c1 g0 g1
            generalize (l[0].toNat : Int) = x at d1 f1
            go_wp2
            go_ret
            exact ⟨by rw [HX.out]; rfl, rfl⟩
          · have f1 : ((l[0].toNat : Int) != 32) = true := ne_t (n := 32) (by omega) c1
            by_cases c2 : (l[l.length - 1]'(by omega)) = 32
            · have f2 : (((l[l.length - 1]'(by omega)).toNat : Int) != 32) = false := ne_f (n := 32) (by omega) c2
              have HX : Hid (lineB l = false) := Lib.hid (by rw [HE.out, decide_eq_true c2]; simp)
              clear c1 c2 g0 g1
              generalize (l[0].toNat : Int) = x at d1 f1
              generalize ((l[l.length - 1]'(by omega)).toNat : Int) = y at d2 f2
              go_wp2
              go_ret
              exact ⟨by rw [HX.out]; rfl, rfl⟩
            · have f2 : (((l[l.length - 1]'(by omega)).toNat : Int) != 32) = true := ne_t (n := 32) (by omega) c2
              have HX : Hid (lineB l = true) := Lib.hid (by rw [HE.out, decide_eq_false c1, decide_eq_false c2]; rfl)
              clear c1 c2 g0 g1
              generalize (l[0].toNat : Int) = x at d1 f1
              generalize ((l[l.length - 1]'(by omega)).toNat : Int) = y at d2 f2
              go_wp2
              go_ret
              exact ⟨by rw [HX.out]; rfl, rfl⟩
        · have HX : Hid (lineB l = false) := Lib.hid (by unfold lineB; rw [decide_eq_false hm]; simp)
          have hm' : decide ((l.length : Int) ≤ 8192) = false := by simp; omega
          have h0' : (0 : Int) < l.length := by omega
          go_wp2
          go_ret
          exact ⟨by rw [HX.out]; rfl, rfl⟩
      · obtain rfl : l = [] := List.eq_nil_of_length_eq_zero (by omega)
        go_wp2
        go_ret
        exact ⟨rfl, rfl⟩

/-! ### joined -/
theorem flat_take {ls : List Tx} {k : Nat} (h : k < ls.length) : (ls.take (k + 1)).flatten = (ls.take k).flatten ++ ls[k] := by
  rw [List.take_succ_eq_append_getElem h, List.flatten_append]; simp
theorem flat_len {ls : List Tx} {k : Nat} (h : k < ls.length) : (ls.take k).flatten.length + ls[k].length ≤ ls.flatten.length := by
  have e : ls.flatten = (ls.take (k + 1)).flatten ++ (ls.drop (k + 1)).flatten := by rw [← List.flatten_append, List.take_append_drop]
  rw [e, flat_take h, List.length_append, List.length_append]
  omega
set_option maxRecDepth 4000 in
set_option maxHeartbeats 2000000 in
theorem joined_c (v : Value) (ls : List Tx) (w : World) (hv : Sl w w v ls) (hl : ls.flatten.length ≤ 140737488355328) : Calls Tryz.prog 23 #[v] w fun e w' => ∃ v', e = .returned v' ∧ OwnB w.heap.size w' v' ls.flatten ∧ Le w w' := by
  obtain ⟨A, c, rfl, h1, h2, h3, h4⟩ := hv
  have HV : Hid (Sl w w (.slice A ls.length c) ls) := Lib.hid ⟨A, c, rfl, h1, h2, h3, h4⟩
  clear h4
  go_enter Tryz.func23, Tryz.ntmps23
  go_wp2
  go_loopg [3, 4] (ls.length) (fun n sv i wr => ∃ k : Nat, n + k = ls.length ∧ i = .int .i64 k ∧ Le w wr ∧ OwnB w.heap.size wr sv (ls.take k).flatten)
  case atStart => exact ⟨0, by omega, rfl, Le.refl w, OwnB.nil _ _⟩
  case round =>
    obtain ⟨k, hn, rfl, hle, hown⟩ := hrel
    have HO := Lib.hid hown
    have HL := Lib.hid hle
    have HN : gk + k ≤ ls.length ∧ ls.length ≤ gk + k := by omega
    have hsz := hle.size
    by_cases hlt : k < ls.length
    · obtain ⟨g, o, rfl, x, hx, hb⟩ := HV.out.at_ hlt
      have d1 := hle.cell hx
      have hfl := flat_len hlt
      have hbw := hb.out.le hle
      have HB := Lib.hid hbw
      have HF : Hid ((ls.take (k + 1)).flatten = (ls.take k).flatten ++ ls[k]) := Lib.hid (flat_take hlt)
      have HFL : Hid ((ls.take k).flatten.length + ls[k].length ≤ 140737488355328) := Lib.hid (by omega)
      clear hn hle hown hx hfl hbw
      go_wp2_with (at_builtin; refine wpList_append_bv rfl (.tmp 11) (.tmp 15) rfl (base := w.heap.size) rfl rfl HO.out HB.out HFL.out ?_ ?_)
      · omega
      intro v' w' hown' hgrow'
      have HLE' : Hid (Le w w') := Lib.hid (Below.grown' HL.out hgrow' (Nat.le_refl _) (fun g hg => (own_row' HO.out g hg).1))
      have HO' : Hid (OwnB w.heap.size w' v' (ls.take (k + 1)).flatten) := Lib.hid (by rw [HF.out]; exact hown')
      clear hown' hgrow'
      go_wp2
      go_roundg (gk - 1)
      case measure => omega
      case rel => exact ⟨k + 1, by omega, by go_num, HLE'.out, HO'.out⟩
    · have HX : Hid (OwnB w.heap.size wr u3 ls.flatten) := Lib.hid (by have := HO.out; rw [List.take_of_length_le (by omega)] at this; exact this)
      clear hn hle hown
      go_wp2
      go_ret
      exact ⟨_, rfl, HX.out, HL.out⟩

/-! ### spaces -/
def blq (c : UInt8) : Bool := decide (c = 32)
end Go.Proofs.YteedhaenbamiaaaGreatDoor
set_option linter.unusedVariables false
set_option linter.unusedSimpArgs false
namespace Go.Proofs.YteedhaenbamiaaaGreatDoor
open Go.RowKit

/-- a slice of pairs, of whatever length -/
def Kw (w : World) (v : Value) (l : KVs) : Prop :=
  ∃ A c, v = .slice A l.length c ∧ l.length ≤ c ∧ c ≤ 9223372036854775807 ∧ l.length ≤ 140737488355328 ∧
    (0 < l.length → ∃ g o, A = some ⟨g, o, none⟩ ∧
      ∀ j (h : j < l.length), ∃ x y, w.cell? ⟨g, o + j * 2, none⟩ = some x ∧ w.cell? ⟨g, o + j * 2 + 1, none⟩ = some y ∧ Bv w x l[j].1 ∧ Bv w y l[j].2)
theorem Kw.le {w w' : World} {v : Value} {l : KVs} (h : Kw w v l) (k : Le w w') : Kw w' v l := by
  obtain ⟨A, c, e, h1, h2, h3, h4⟩ := h
  refine ⟨A, c, e, h1, h2, h3, fun hn => ?_⟩
  obtain ⟨g, o, e, hc⟩ := h4 hn
  refine ⟨g, o, e, fun j hj => ?_⟩
  obtain ⟨x, y, hx, hy, hx2, hy2⟩ := hc j hj
  exact ⟨x, y, k.cell hx, k.cell hy, hx2.le k, hy2.le k⟩
theorem Kw.kq {w : World} {v : Value} {l : KVs} (h : Kw w v l) (hl : l.length ≤ 1099511627776) : Kq (fun _ => True) w v l := by
  obtain ⟨A, c, e, h1, h2, h3, h4⟩ := h
  refine ⟨A, c, e, h1, h2, hl, fun hn => ?_⟩
  obtain ⟨g, o, e, hc⟩ := h4 hn
  refine ⟨g, o, e, trivial, fun j hj => ?_⟩
  obtain ⟨x, y, hx, hy, hx2, hy2⟩ := hc j hj
  exact ⟨x, y, hx, hy, ⟨hx2, fun _ _ => trivial⟩, ⟨hy2, fun _ _ => trivial⟩⟩
theorem Kw.at_ {w : World} {A : Option Addr} {n c : Nat} {l : KVs} (h : Kw w (.slice A n c) l) {k : Nat} (hk : k < l.length) :
    ∃ g o, A = some ⟨g, o, none⟩ ∧ ∃ x y, w.cell? ⟨g, o + k * 2, none⟩ = some x ∧ w.cell? ⟨g, o + k * 2 + 1, none⟩ = some y ∧ Hid (Bv w x l[k].1) ∧ Hid (Bv w y l[k].2) := by
  obtain ⟨A', c', e, h1, h2, h3, h4⟩ := h
  injection e with e1 e2 e3
  subst e1
  obtain ⟨g, o, rfl, hc⟩ := h4 (by omega)
  obtain ⟨x, y, hx, hy, hx2, hy2⟩ := hc k hk
  exact ⟨g, o, rfl, x, y, hx, hy, Lib.hid hx2, Lib.hid hy2⟩
theorem Kw.form {w : World} {v : Value} {l : KVs} (h : Kw w v l) : ∃ A c, v = .slice A l.length c := by obtain ⟨A, c, e, _⟩ := h; exact ⟨A, c, e⟩
theorem Bv.form {w : World} {v : Value} {l : Tx} (h : Bv w v l) : ∃ A c, v = .slice A l.length c := by obtain ⟨A, c, e, _⟩ := h; exact ⟨A, c, e⟩
/-- a URI that came in -/
structure Uw (w : World) (x : UV) (u : PU) : Prop where
  scheme : Bv w x.scheme u.scheme
  raw : Bv w x.raw u.raw
  wild : x.wild = u.wild
  slash : x.slash = u.slash
  user : Bv w x.user u.user
  pass : Bv w x.pass u.pass
  host : Bv w x.host u.host
  port : x.port = u.port
  lo : -9223372036854775808 ≤ u.port
  hi : u.port ≤ 9223372036854775807
  ps : Kw w x.ps u.ps
  hs : Kw w x.hs u.hs
theorem Uw.le {w w' : World} {x : UV} {u : PU} (h : Uw w x u) (k : Le w w') : Uw w' x u :=
  ⟨h.scheme.le k, h.raw.le k, h.wild, h.slash, h.user.le k, h.pass.le k, h.host.le k, h.port, h.lo, h.hi, h.ps.le k, h.hs.le k⟩
theorem Uw.uq {w : World} {x : UV} {u : PU} (h : Uw w x u) (h1 : u.ps.length ≤ 1099511627776) (h2 : u.hs.length ≤ 1099511627776) : Uq (fun _ => True) w x u :=
  ⟨⟨h.scheme, fun _ _ => trivial⟩, ⟨h.raw, fun _ _ => trivial⟩, h.wild, h.slash, ⟨h.user, fun _ _ => trivial⟩, ⟨h.pass, fun _ _ => trivial⟩, ⟨h.host, fun _ _ => trivial⟩, h.port, h.ps.kq h1, h.hs.kq h2⟩

def ftB (n : Nat) : Bool := decide (n ≤ 2147483647)
def ftK (x : Tx × Tx) : Bool := ftB x.1.length && ftB x.2.length
def ftKs (l : KVs) : Bool := ftB l.length && l.all ftK
def ftU (u : PU) : Bool := ftB u.scheme.length && (ftB u.raw.length && (ftB u.user.length && (ftB u.pass.length && (ftB u.host.length && (ftKs u.ps && ftKs u.hs)))))
theorem ftB_t {n : Nat} (h : ftB n = true) : decide ((2147483647 : Int) < (n : Int)) = false := by
  unfold ftB at h; have := of_decide_eq_true h; exact decide_eq_false (by omega)
theorem ftB_f {n : Nat} (h : ftB n = false) : decide ((2147483647 : Int) < (n : Int)) = true := by
  unfold ftB at h; have := of_decide_eq_false h; exact decide_eq_true (by omega)
theorem ftB_le {n : Nat} (h : ftB n = true) : n ≤ 2147483647 := of_decide_eq_true h
set_option maxHeartbeats 1000000 in
theorem zzFits4_c (w : World) (x y : Value) (a b : Tx) (r : Bool) (hr : ftK (a, b) = r) (hx : Bv w x a) (hy : Bv w y b) :
    Calls Tryz.prog 63 #[.agg #[x, y]] w fun e w' => e = .returned (.bool r) ∧ Le w w' := by
  obtain ⟨A, c, rfl⟩ := hx.form
  obtain ⟨A', c', rfl⟩ := hy.form
  have hr' : (ftB a.length && ftB b.length) = r := hr
  clear hx hy hr
  obtain ⟨r1, h1⟩ : ∃ r, ftB a.length = r := ⟨_, rfl⟩
  obtain ⟨r2, h2⟩ : ∃ r, ftB b.length = r := ⟨_, rfl⟩
  rw [h1, h2] at hr'
  subst hr'
  cases r1
  · have g1 := ftB_f h1
    clear h1 h2
    go_enter Tryz.func63, Tryz.ntmps63
    go_wp2
    go_ret
    exact ⟨rfl, (Le.refl w).alloc _⟩
  · have g1 := ftB_t h1
    cases r2
    · have g2 := ftB_f h2
      clear h1 h2
      go_enter Tryz.func63, Tryz.ntmps63
      go_wp2
      go_ret
      exact ⟨rfl, (Le.refl w).alloc _⟩
    · have g2 := ftB_t h2
      clear h1 h2
      go_enter Tryz.func63, Tryz.ntmps63
      go_wp2
      go_ret
      exact ⟨rfl, (Le.refl w).alloc _⟩
set_option maxRecDepth 4000 in
set_option maxHeartbeats 2000000 in
theorem zzFits3_c (w : World) (v : Value) (l : KVs) (r : Bool) (hr : ftKs l = r) (hv : Kw w v l) :
    Calls Tryz.prog 26 #[v] w fun e w' => e = .returned (.bool r) ∧ Le w w' := by
  have HV := Lib.hid hv
  obtain ⟨A, c, rfl⟩ := hv.form
  have hl : l.length ≤ 140737488355328 := by obtain ⟨_, _, _, _, _, h, _⟩ := hv; exact h
  have HR := Lib.hid hr
  clear hv hr
  obtain ⟨r1, h1⟩ : ∃ r, ftB l.length = r := ⟨_, rfl⟩
  cases r1
  · have g1 := ftB_f h1
    have HX : Hid (r = false) := Lib.hid (by rw [← HR.out]; unfold ftKs; rw [h1]; rfl)
    clear h1
    go_enter Tryz.func26, Tryz.ntmps26
    go_wp2
    go_ret
    exact ⟨by rw [HX.out]; rfl, Le.refl w⟩
  have g1 := ftB_t h1
  have H1 := Lib.hid h1
  clear h1
  go_enter Tryz.func26, Tryz.ntmps26
  go_wp2
  go_loopg [10] (l.length) (fun n i wr => ∃ k : Nat, n + k = l.length ∧ i = .int .i64 k ∧ Le w wr ∧ (l.take k).all ftK = true)
  case atStart => exact ⟨0, by omega, rfl, Le.refl w, rfl⟩
  case round =>
    obtain ⟨k, hn, rfl, hle, hq⟩ := hrel
    have HQ := Lib.hid hq
    have HL := Lib.hid hle
    have HN : gk + k ≤ l.length ∧ l.length ≤ gk + k := by omega
    have hsz := hle.size
    clear hn hq
    by_cases hlt : k < l.length
    · obtain ⟨g, o, rfl, x, y, d1', d2', X, Y⟩ := HV.out.at_ hlt
      have d1 := hle.cell d1'
      have d2 := hle.cell d2'
      have X2 := Lib.hid ((X.out.le hle).le ((Le.refl wr).alloc (Obj.cells #[x, y] 89)))
      have Y2 := Lib.hid ((Y.out.le hle).le ((Le.refl wr).alloc (Obj.cells #[x, y] 89)))
      obtain ⟨A1, c1, rfl⟩ := X.out.form
      obtain ⟨A2, c2, rfl⟩ := Y.out.form
      obtain ⟨r2, h2⟩ : ∃ r, ftK l[k] = r := ⟨_, rfl⟩
      have H2 := Lib.hid h2
      clear hle d1' d2' X Y h2
      go_wp2_with fail
      refine (zzFits4_c _ _ _ l[k].1 l[k].2 r2 H2.out X2.out Y2.out).mono ?_
      rintro e w' ⟨rfl, hle'⟩
      have HLE' : Hid (Le w w') := Lib.hid (Le.trans (HL.out.alloc _) hle')
      clear hle'
      cases r2
      · have HX : Hid (r = false) := Lib.hid (by
          rw [← HR.out]; unfold ftKs
          rw [List.all_eq_false.2 ⟨l[k], List.getElem_mem hlt, by rw [H2.out]; simp⟩, Bool.and_false])
        go_wp2
        go_ret
        exact ⟨by rw [HX.out]; rfl, HLE'.out⟩
      · have HX : Hid ((l.take (k + 1)).all ftK = true) := Lib.hid (by rw [List.take_succ_eq_append_getElem hlt, List.all_append, HQ.out]; simpa using H2.out)
        go_wp2
        go_roundg (gk - 1)
        case measure => omega
        case rel => exact ⟨k + 1, by omega, by go_num, HLE'.out, HX.out⟩
    · have HX : Hid (r = true) := Lib.hid (by
        have := HQ.out; rw [List.take_of_length_le (by omega)] at this
        rw [← HR.out]; unfold ftKs; rw [H1.out, this]; rfl)
      clear hle
      go_wp2
      go_ret
      exact ⟨by rw [HX.out]; rfl, HL.out⟩
/-! ### zzFits2 -/
set_option maxRecDepth 4000 in
set_option maxHeartbeats 4000000 in
theorem zzFits2_c (w : World) (x : UV) (u : PU) (r : Bool) (hr : ftU u = r) (hx : Uw w x u) :
    Calls Tryz.prog 12 #[x.val] w fun e w' => e = .returned (.bool r) ∧ Le w w' := by
  have HX := Lib.hid hx
  have HR := Lib.hid hr
  obtain ⟨Ascheme, cscheme, escheme⟩ := hx.scheme.form
  obtain ⟨Araw, craw, eraw⟩ := hx.raw.form
  obtain ⟨Auser, cuser, euser⟩ := hx.user.form
  obtain ⟨Apass, cpass, epass⟩ := hx.pass.form
  obtain ⟨Ahost, chost, ehost⟩ := hx.host.form
  obtain ⟨Aps, cps, eps⟩ := hx.ps.form
  obtain ⟨Ahs, chs, ehs⟩ := hx.hs.form
  have hval : x.val = .agg #[.slice Ascheme u.scheme.length cscheme, .slice Araw u.raw.length craw, .bool x.wild, .bool x.slash, .slice Auser u.user.length cuser, .slice Apass u.pass.length cpass, .slice Ahost u.host.length chost, .int .i64 x.port, .slice Aps u.ps.length cps, .slice Ahs u.hs.length chs] := by
    unfold UV.val; rw [escheme, eraw, euser, epass, ehost, eps, ehs]
  have HE := Lib.hid (⟨eps, ehs⟩ : _ ∧ _)
  rw [hval]
  clear hval hx hr escheme eraw euser epass ehost eps ehs
  obtain ⟨rscheme, hscheme⟩ : ∃ r, ftB u.scheme.length = r := ⟨_, rfl⟩
  cases rscheme
  · have gscheme := ftB_f hscheme
    have HF : Hid (r = false) := Lib.hid (by rw [← HR.out]; unfold ftU; rw [hscheme]; simp)
    clear hscheme
    go_enter Tryz.func12, Tryz.ntmps12
    go_wp2
    go_ret
    exact ⟨by rw [HF.out]; rfl, (Le.refl w).alloc _⟩
  have gscheme := ftB_t hscheme
  have Hscheme := Lib.hid hscheme
  clear hscheme
  obtain ⟨rraw, hraw⟩ : ∃ r, ftB u.raw.length = r := ⟨_, rfl⟩
  cases rraw
  · have graw := ftB_f hraw
    have HF : Hid (r = false) := Lib.hid (by rw [← HR.out]; unfold ftU; rw [hraw]; simp)
    clear hraw
    go_enter Tryz.func12, Tryz.ntmps12
    go_wp2
    go_ret
    exact ⟨by rw [HF.out]; rfl, (Le.refl w).alloc _⟩
  have graw := ftB_t hraw
  have Hraw := Lib.hid hraw
  clear hraw
  obtain ⟨ruser, huser⟩ : ∃ r, ftB u.user.length = r := ⟨_, rfl⟩
  cases ruser
  · have guser := ftB_f huser
    have HF : Hid (r = false) := Lib.hid (by rw [← HR.out]; unfold ftU; rw [huser]; simp)
    clear huser
    go_enter Tryz.func12, Tryz.ntmps12
    go_wp2
    go_ret
    exact ⟨by rw [HF.out]; rfl, (Le.refl w).alloc _⟩
  have guser := ftB_t huser
  have Huser := Lib.hid huser
  clear huser
  obtain ⟨rpass, hpass⟩ : ∃ r, ftB u.pass.length = r := ⟨_, rfl⟩
  cases rpass
  · have gpass := ftB_f hpass
    have HF : Hid (r = false) := Lib.hid (by rw [← HR.out]; unfold ftU; rw [hpass]; simp)
    clear hpass
    go_enter Tryz.func12, Tryz.ntmps12
    go_wp2
    go_ret
    exact ⟨by rw [HF.out]; rfl, (Le.refl w).alloc _⟩
  have gpass := ftB_t hpass
  have Hpass := Lib.hid hpass
  clear hpass
  obtain ⟨rhost, hhost⟩ : ∃ r, ftB u.host.length = r := ⟨_, rfl⟩
  cases rhost
  · have ghost := ftB_f hhost
    have HF : Hid (r = false) := Lib.hid (by rw [← HR.out]; unfold ftU; rw [hhost]; simp)
    clear hhost
    go_enter Tryz.func12, Tryz.ntmps12
    go_wp2
    go_ret
    exact ⟨by rw [HF.out]; rfl, (Le.refl w).alloc _⟩
  have ghost := ftB_t hhost
  have Hhost := Lib.hid hhost
  clear hhost
  go_enter Tryz.func12, Tryz.ntmps12
  go_wp2_with fail
  obtain ⟨rp, hrp⟩ : ∃ r, ftKs u.ps = r := ⟨_, rfl⟩
  have HRP := Lib.hid hrp
  have hk1 := HX.out.ps.le ((Le.refl w).alloc (Obj.cells #[.slice Ascheme u.scheme.length cscheme, .slice Araw u.raw.length craw, .bool x.wild, .bool x.slash, .slice Auser u.user.length cuser, .slice Apass u.pass.length cpass, .slice Ahost u.host.length chost, .int .i64 x.port, .slice Aps u.ps.length cps, .slice Ahs u.hs.length chs] 32))
  have hk2 := HX.out.hs.le ((Le.refl w).alloc (Obj.cells #[.slice Ascheme u.scheme.length cscheme, .slice Araw u.raw.length craw, .bool x.wild, .bool x.slash, .slice Auser u.user.length cuser, .slice Apass u.pass.length cpass, .slice Ahost u.host.length chost, .int .i64 x.port, .slice Aps u.ps.length cps, .slice Ahs u.hs.length chs] 32))
  rw [HE.out.1] at hk1
  rw [HE.out.2] at hk2
  have hb := heap_alloc_new w (Obj.cells #[.slice Ascheme u.scheme.length cscheme, .slice Araw u.raw.length craw, .bool x.wild, .bool x.slash, .slice Auser u.user.length cuser, .slice Apass u.pass.length cpass, .slice Ahost u.host.length chost, .int .i64 x.port, .slice Aps u.ps.length cps, .slice Ahs u.hs.length chs] 32)
  have K2 := Lib.hid hk2
  have HB := Lib.hid hb
  refine (zzFits3_c _ _ u.ps rp hrp hk1).mono ?_
  rintro e w1 ⟨rfl, hle1⟩
  have HLE1 : Hid (Le w w1) := Lib.hid (Le.trans ((Le.refl w).alloc _) hle1)
  have K2' := Lib.hid (K2.out.le hle1)
  have y9 : w1.cell? ⟨w.heap.size, 9, none⟩ = some (.slice Ahs u.hs.length chs) := by rw [cell_cells (hle1.heap HB.out) 9]; rfl
  clear hk1 hk2 hb hrp hle1 K2
  cases rp
  · have HF : Hid (r = false) := Lib.hid (by rw [← HR.out]; unfold ftU; rw [HRP.out]; simp)
    go_wp2
    go_ret
    exact ⟨by rw [HF.out]; rfl, HLE1.out⟩
  go_wp2_with fail
  obtain ⟨rh, hrh⟩ : ∃ r, ftKs u.hs = r := ⟨_, rfl⟩
  have HRH := Lib.hid hrh
  refine (zzFits3_c _ _ u.hs rh hrh K2'.out).mono ?_
  rintro e w2 ⟨rfl, hle2⟩
  have HLE2 : Hid (Le w w2) := Lib.hid (Le.trans HLE1.out hle2)
  clear hrh hle2 y9
  cases rh
  · have HF : Hid (r = false) := Lib.hid (by rw [← HR.out]; unfold ftU; rw [HRH.out]; simp)
    go_wp2
    go_ret
    exact ⟨by rw [HF.out]; rfl, HLE2.out⟩
  have HF : Hid (r = true) := Lib.hid (by rw [← HR.out]; unfold ftU; rw [Hscheme.out, Hraw.out, Huser.out, Hpass.out, Hhost.out, HRP.out, HRH.out]; rfl)
  go_wp2
  go_ret
  exact ⟨by rw [HF.out]; rfl, HLE2.out⟩
theorem ftU_parts {u : PU} (h : ftU u = true) : ftB u.scheme.length = true ∧ ftB u.raw.length = true ∧ ftB u.user.length = true ∧ ftB u.pass.length = true ∧ ftB u.host.length = true ∧ ftKs u.ps = true ∧ ftKs u.hs = true := by
  unfold ftU at h
  simp only [Bool.and_eq_true] at h
  exact h
theorem ftKs_parts {l : KVs} (h : ftKs l = true) : l.length ≤ 2147483647 ∧ ∀ z ∈ l, z.1.length ≤ 2147483647 ∧ z.2.length ≤ 2147483647 := by
  unfold ftKs at h
  simp only [Bool.and_eq_true] at h
  refine ⟨ftB_le h.1, fun z hz => ?_⟩
  have := List.all_eq_true.1 h.2 z hz
  unfold ftK at this
  simp only [Bool.and_eq_true] at this
  exact ⟨ftB_le this.1, ftB_le this.2⟩
end Go.Proofs.YteedhaenbamiaaaGreatDoor
set_option linter.unusedVariables false
set_option linter.unusedSimpArgs false
namespace Go.Proofs.YteedhaenbamiaaaGreatDoor
open Go.RowKit

/-! ### small, alike -/
def smI (c : Int) : Int := if 65 ≤ c ∧ c ≤ 90 then c + 32 else c
theorem smI_byte (x : UInt8) : smI (x.toNat : Int) = ((lowC x).toNat : Int) := by
  unfold smI
  by_cases h : 65 ≤ (x.toNat : Int) ∧ (x.toNat : Int) ≤ 90
  · rw [if_pos h, lowC_up h.1 h.2]
  · rw [if_neg h, lowC_no h]
set_option maxHeartbeats 1000000 in
theorem smallI (c : Int) (w : World) : Calls Tryz.prog 112 #[.int .u8 c] w fun e w' => e = .returned (.int .u8 (smI c)) ∧ ∃ m, w' = w.drewN m := by
  by_cases h1 : 65 ≤ c
  · by_cases h2 : c ≤ 90
    · have HX : Hid (smI c = c + 32) := Lib.hid (by unfold smI; rw [if_pos ⟨h1, h2⟩])
      have e1 : IntKind.u8.wrap (c + 97) = c + 97 := IntWalk.u8_in _ (by omega)
      have e2 : IntKind.u8.wrap (c + 97 - 65) = c + 97 - 65 := IntWalk.u8_in _ (by omega)
      have E2 : Hid (c + 97 - 65 = c + 32) := Lib.hid (by omega)
      go_enter Tryz.func112, Tryz.ntmps112
      go_wp2
      go_ret
      exact ⟨by rw [HX.out, ← E2.out]; rfl, 0, by cases w; rfl⟩
    · have HX : Hid (smI c = c) := Lib.hid (by unfold smI; rw [if_neg (by omega)])
      have h3 : 90 < c := by omega
      go_enter Tryz.func112, Tryz.ntmps112
      go_wp2
      go_ret
      exact ⟨by rw [HX.out]; rfl, 0, by cases w; rfl⟩
  · have HX : Hid (smI c = c) := Lib.hid (by unfold smI; rw [if_neg (by omega)])
    have h3 : c < 65 := by omega
    go_enter Tryz.func112, Tryz.ntmps112
    go_wp2
    go_ret
    exact ⟨by rw [HX.out]; rfl, 0, by cases w; rfl⟩
theorem map_take_succ (a b : Tx) (k : Nat) (h : (a.take k).map lowC = (b.take k).map lowC) (ha : k < a.length) (hb : k < b.length) (he : lowC a[k] = lowC b[k]) : (a.take (k + 1)).map lowC = (b.take (k + 1)).map lowC := by
  rw [List.take_succ_eq_append_getElem ha, List.take_succ_eq_append_getElem hb, List.map_append, List.map_append, h]
  simp [he]
set_option maxRecDepth 4000 in
set_option maxHeartbeats 2000000 in
theorem alike_c (w : World) (x y : Value) (a b : Tx) (r : Bool) (hr : decide (a.map lowC = b.map lowC) = r) (hx : Bv w x a) (hy : Bv w y b) :
    Calls Tryz.prog 91 #[x, y] w fun e w' => e = .returned (.bool r) ∧ ∃ m, w' = w.drewN m := by
  obtain ⟨A, c, rfl, h1, h2, h4⟩ := hx
  obtain ⟨B, d, rfl, k1, k2, k4⟩ := hy
  have HR := Lib.hid hr
  clear hr
  by_cases hl : a.length = b.length
  · have E1 : ((a.length : Int) != (b.length : Int)) = false := by simp [hl]
    have E2 : Hid (a.length = b.length) := hl
    clear hl
    go_enter Tryz.func91, Tryz.ntmps91
    go_wp2
    go_loopg [5] (a.length) (fun n i wr => ∃ k : Nat, n + k = a.length ∧ i = .int .i64 k ∧ Dr w wr ∧ (a.take k).map lowC = (b.take k).map lowC)
    case atStart => exact ⟨0, by omega, rfl, Dr.refl _, rfl⟩
    case round =>
      obtain ⟨k, hn, rfl, hd, ht⟩ := hrel
      have HT := Lib.hid ht
      have HD := Lib.hid hd
      have HN : gk + k ≤ a.length ∧ a.length ≤ gk + k := by omega
      have R1 := Rb.le h4 hd.le
      have R2 := Rb.le k4 hd.le
      clear ht hn hd h4 k4
      by_cases hlt : k < a.length
      · have hlt2 : k < b.length := by have := E2.out; omega
        obtain ⟨b1, o1, rfl, c1⟩ := R1.2 (by omega)
        obtain ⟨b2, o2, rfl, c2⟩ := R2.2 (by omega)
        have d1 := c1 k hlt
        have d2 := c2 k hlt2
        clear c1 c2 R1 R2
        have s1 := smI_byte a[k]
        have s2 := smI_byte b[k]
        by_cases hq : lowC a[k] = lowC b[k]
        · have HX := Lib.hid hq
          have hne : (smI (a[k].toNat : Int) != smI (b[k].toNat : Int)) = false := by rw [s1, s2, hq]; simp
          clear hq s1 s2
          generalize (a[k].toNat : Int) = p at d1 hne
          generalize (b[k].toNat : Int) = q at d2 hne
          go_wp2
          go_quiet ((go_at_call 112; exact Calls.quiet_of (smallI _ _)))
          go_wp2
          go_roundg (gk - 1)
          case measure => omega
          case rel => exact ⟨k + 1, by omega, by go_num, HD.out.step _, map_take_succ _ _ _ HT.out hlt hlt2 HX.out⟩
        · have hne : (smI (a[k].toNat : Int) != smI (b[k].toNat : Int)) = true := by
            rw [s1, s2]
            simp only [bne_iff_ne, ne_eq]; intro h; exact hq (UInt8.toNat_inj.1 (by omega))
          have HF : Hid (r = false) := Lib.hid (by
            rw [← HR.out]
            refine decide_eq_false fun e => hq ?_
            have e2 := congrArg (·[k]?) e
            simpa [List.getElem?_map, List.getElem?_eq_getElem hlt, List.getElem?_eq_getElem hlt2] using e2)
          clear hq s1 s2
          generalize (a[k].toNat : Int) = p at d1 hne
          generalize (b[k].toNat : Int) = q at d2 hne
          go_wp2
          go_quiet ((go_at_call 112; exact Calls.quiet_of (smallI _ _)))
          go_wp2
          go_ret
          exact ⟨by rw [HF.out]; rfl, HD.out.step _⟩
      · have HF : Hid (r = true) := Lib.hid (by
          rw [← HR.out]
          have e1 := List.take_of_length_le (i := k) (l := a) (by omega)
          have e2 := List.take_of_length_le (i := k) (l := b) (by have := E2.out; omega)
          exact decide_eq_true (by rw [← e1, ← e2]; exact HT.out))
        go_wp2
        go_ret
        exact ⟨by rw [HF.out]; rfl, HD.out⟩
  · have E1 : ((a.length : Int) != (b.length : Int)) = true := by simp; omega
    have HF : Hid (r = false) := Lib.hid (by
      rw [← HR.out]
      refine decide_eq_false fun e => hl ?_
      have := congrArg List.length e
      simpa using this)
    go_enter Tryz.func91, Tryz.ntmps91
    go_wp2
    go_ret
    exact ⟨by rw [HF.out]; rfl, 0, by cases w; rfl⟩

/-! ### isOnce -/
set_option maxRecDepth 4000 in
set_option maxHeartbeats 4000000 in
theorem isOnce_c (φ : Nat → Prop) (v : Value) (l : KVs) (w : World) (r : Bool) (hr : apB l = r) (hv : Kq φ w v l) : Calls Tryz.prog 65 #[v] w fun e w' => e = .returned (.bool r) ∧ ∃ m, w' = w.drewN m := by
  have HV := Lib.hid hv
  have HR := Lib.hid hr
  obtain ⟨A, cc, rfl, h1, h2, h3, _⟩ := hv
  clear hr
  go_enter Tryz.func65, Tryz.ntmps65
  go_wp2
  go_loopg [3] (l.length) (fun n i wr => ∃ k : Nat, n + k = l.length ∧ i = .int .i64 k ∧ Dr w wr ∧ Hid (apTo l k))
  case atStart => exact ⟨0, by omega, rfl, Dr.refl w, Lib.hid fun a b hb ha => by omega⟩
  case round =>
    obtain ⟨i, hn, rfl, hle, HQ⟩ := hrel
    have HLE := Lib.hid hle
    have HN : gk + i ≤ l.length ∧ l.length ≤ gk + i := by omega
    clear hn hle
    by_cases hlt : i < l.length
    · obtain ⟨g, o, rfl, x, x2, d1, d2, X, X2⟩ := HV.out.at_ hlt
      clear d2
      have D1 := Lib.hid d1
      clear d1
      go_wp2
      rename World => wr
      obtain ⟨wo, hwo⟩ : ∃ wo : World, wo = wr := ⟨_, rfl⟩
      clear hwo
      go_loopg [4] (i) (fun n k wx => ∃ j : Nat, n + j = i ∧ k = .int .i64 j ∧ Dr w wx ∧ Hid (∀ b, b < j → lowK l i ≠ lowK l b))
      case atStart => exact ⟨0, by omega, rfl, HLE.out, Lib.hid fun b hb => by omega⟩
      case round =>
        obtain ⟨k, hn, rfl, hle, HK⟩ := hrel
        have HLE2 := Lib.hid hle
        have HM : gk + k ≤ i ∧ i ≤ gk + k := by omega
        clear hn
        by_cases hki : k < i
        · obtain ⟨g', o', e', y, y2, e1, e2, Y, Y2⟩ := HV.out.at_ (k := k) (by omega)
          obtain ⟨rfl, rfl⟩ : g = g' ∧ o = o' := by injection e' with e'; injection e' with e1 e2; exact ⟨e1, e2⟩
          have f1 := hle.le.cell D1.out
          have f2 := hle.le.cell e1
          have XX := Lib.hid (X.out.le hle.le)
          have YY := Lib.hid (Y.out.le hle.le)
          have hkl : k < l.length := by omega
          clear e' e2 e1 hle
          obtain ⟨q, hq⟩ : ∃ q, decide (l[i].1.map lowC = l[k].1.map lowC) = q := ⟨_, rfl⟩
          have HQQ := Lib.hid hq
          clear hq
          cases q
          · have HF : Hid (∀ b, b < k + 1 → lowK l i ≠ lowK l b) := Lib.hid fun b hb => by
              rcases Nat.lt_or_ge b k with h | h
              · exact HK.out b h
              · obtain rfl : b = k := by omega
                rw [lowK_at hlt, lowK_at (show b < l.length by omega)]
                exact of_decide_eq_false HQQ.out
            go_wp2
            go_quiet ((go_at_call 91; exact Calls.quiet_of (alike_c _ _ _ _ _ false HQQ.out (XX.out.dn _) (YY.out.dn _))))
            go_wp2
            go_roundg (i - k - 1)
            case measure => omega
            case rel => exact ⟨k + 1, by omega, by go_num, HLE2.out.step _, HF⟩
          · have HF : Hid (r = false) := Lib.hid (by rw [← HR.out]; exact apB_false hlt hki (by rw [lowK_at hlt, lowK_at (show k < l.length by omega)]; exact of_decide_eq_true HQQ.out))
            go_wp2
            go_quiet ((go_at_call 91; exact Calls.quiet_of (alike_c _ _ _ _ _ true HQQ.out (XX.out.dn _) (YY.out.dn _))))
            go_wp2
            go_ret
            exact ⟨by rw [HF.out]; rfl, HLE2.out.step _⟩
        · obtain rfl : k = i := by omega
          have HF : Hid (apTo l (k + 1)) := Lib.hid fun a b hb ha => by
            rcases Nat.lt_or_ge a k with h | h
            · exact HQ.out a b hb h
            · obtain rfl : a = k := by omega
              exact HK.out b hb
          clear hle
          go_wp2
          go_roundg (l.length - k - 1)
          case measure => omega
          case rel => exact ⟨k + 1, by omega, by go_num, HLE2.out, HF⟩
    · have HF : Hid (r = true) := Lib.hid (by rw [← HR.out]; exact apB_true (by have := HQ.out; intro a b hb ha; exact this a b hb (by omega)))
      go_wp2
      go_ret
      exact ⟨by rw [HF.out]; rfl, HLE.out⟩
end Go.Proofs.YteedhaenbamiaaaGreatDoor
set_option linter.unusedVariables false
set_option linter.unusedSimpArgs false
namespace Go.Proofs.YteedhaenbamiaaaGreatDoor
open Go.RowKit

theorem isWord_d (v : Value) (l : Tx) (w : World) (r : Bool) (hr : wordB l = r) (hv : Bv w v l) : Calls Tryz.prog 29 #[v] w fun e w' => e = .returned (.bool r) ∧ w = w' := by
  subst hr; exact wordL_c v l w hv
theorem isUser_d (v : Value) (l : Tx) (w : World) (r : Bool) (hr : userB l = r) (hv : Bv w v l) : Calls Tryz.prog 61 #[v] w fun e w' => e = .returned (.bool r) ∧ w = w' := by
  subst hr; exact userL_c v l w hv
theorem isHost_d (v : Value) (l : Tx) (w : World) (r : Bool) (hr : hostB l = r) (hv : Bv w v l) : Calls Tryz.prog 60 #[v] w fun e w' => e = .returned (.bool r) ∧ w = w' := by
  subst hr; exact hostL_c v l w hv
def prq (filled : Bool) (x : Tx × Tx) : Bool := wordB x.1 && (wordB x.2 || (!filled && decide (x.2.length = 0)))
def prmB (l : KVs) (filled : Bool) : Bool := decide (l.length ≤ 64) && l.all (prq filled) && apB l
set_option maxRecDepth 4000 in
set_option maxHeartbeats 4000000 in
theorem isParams_c (φ : Nat → Prop) (v : Value) (l : KVs) (filled : Bool) (w : World) (r : Bool) (hr : prmB l filled = r) (hv : Kq φ w v l) :
    Calls Tryz.prog 28 #[v, .bool filled] w fun e w' => e = .returned (.bool r) ∧ ∃ m, w' = w.drewN m := by
  have HV := Lib.hid hv
  have HR := Lib.hid hr
  obtain ⟨A, cc, rfl, h1, h2, h3, _⟩ := hv
  clear hr
  by_cases h64 : l.length ≤ 64
  case neg =>
    have HF : Hid (r = false) := Lib.hid (by rw [← HR.out]; unfold prmB; rw [decide_eq_false h64]; rfl)
    have g64 : (64 : Int) < l.length := by omega
    go_enter Tryz.func28, Tryz.ntmps28
    go_wp2
    go_ret
    exact ⟨by rw [HF.out]; rfl, 0, by cases w; rfl⟩
  have H64 := Lib.hid h64
  have g64 : (l.length : Int) ≤ 64 := by omega
  go_enter Tryz.func28, Tryz.ntmps28
  go_wp2
  go_loop [5] (fun i => ∃ k : Nat, k ≤ l.length ∧ i = .int .i64 k ∧ (l.take k).all (prq filled) = true) (fun i => l.length - (intOf i).toNat)
  case atStart => exact ⟨0, Nat.zero_le _, rfl, rfl⟩
  case round =>
    obtain ⟨k, hk, rfl, hq⟩ := hrel
    have HQ := Lib.hid hq
    clear hq
    by_cases hlt : k < l.length
    · obtain ⟨g, o, rfl, x, y, d1, d2, X, Y⟩ := HV.out.at_ hlt
      obtain ⟨A2, c2, rfl, hyl⟩ := bv_slice Y.out
      have bad : prq filled l[k] = false → r = false := fun hp => by
        rw [← HR.out]; unfold prmB
        rw [List.all_eq_false.2 ⟨l[k], List.getElem_mem hlt, by rw [hp]; simp⟩, Bool.and_false, Bool.false_and]
      have good : prq filled l[k] = true → (l.take (k + 1)).all (prq filled) = true := fun hp => by
        rw [List.take_succ_eq_append_getElem hlt, List.all_append, HQ.out]; simpa using hp
      have BAD := Lib.hid bad
      have GOOD := Lib.hid good
      obtain ⟨r1, e1⟩ : ∃ r, wordB l[k].1 = r := ⟨_, rfl⟩
      obtain ⟨r2, e2⟩ : ∃ r, wordB l[k].2 = r := ⟨_, rfl⟩
      have C1 := Lib.hid (isWord_d _ _ w r1 e1 X.out)
      have C2 := Lib.hid (isWord_d _ _ w r2 e2 Y.out)
      have E1 := Lib.hid e1
      have E2 := Lib.hid e2
      clear bad good e1 e2
      cases r1
      · have HF : Hid (r = false) := Lib.hid (BAD.out (by unfold prq; rw [E1.out]; rfl))
        go_wp2_with fail
        refine C1.out.mono ?_
        rintro e w' ⟨rfl, rfl⟩
        go_wp2
        go_ret
        exact ⟨by rw [HF.out]; rfl, 0, by cases w; rfl⟩
      · go_wp2_with fail
        refine C1.out.mono ?_
        rintro e w' ⟨rfl, rfl⟩
        go_wp2_with fail
        refine C2.out.mono ?_
        rintro e w' ⟨rfl, rfl⟩
        cases r2
        · by_cases hz : l[k].2.length = 0
          · have HZ := Lib.hid hz
            cases filled
            · have HX : Hid ((l.take (k + 1)).all (prq false) = true) := Lib.hid (GOOD.out (by unfold prq; rw [E1.out, E2.out, decide_eq_true hz]; rfl))
              generalize l[k].2.length = m at hz d2 hyl ⊢
              subst hz
              go_wp2
              go_round
              case rel => exact ⟨k + 1, by omega, by go_num, HX.out⟩
              case measure => simp [intOf]; omega
            · have HF : Hid (r = false) := Lib.hid (BAD.out (by unfold prq; rw [E1.out, E2.out]; rfl))
              clear hz
              go_wp2
              go_ret
              exact ⟨by rw [HF.out]; rfl, 0, by cases w; rfl⟩
          · have HF : Hid (r = false) := Lib.hid (BAD.out (by unfold prq; rw [E1.out, E2.out, decide_eq_false hz]; simp))
            have hz' : (0 : Int) < l[k].2.length := by omega
            clear hz
            cases filled
            · go_wp2
              go_ret
              exact ⟨by rw [HF.out]; rfl, 0, by cases w; rfl⟩
            · go_wp2
              go_ret
              exact ⟨by rw [HF.out]; rfl, 0, by cases w; rfl⟩
        · have HX : Hid ((l.take (k + 1)).all (prq filled) = true) := Lib.hid (GOOD.out (by unfold prq; rw [E1.out, E2.out]; rfl))
          go_wp2
          go_round
          case rel => exact ⟨k + 1, by omega, by go_num, HX.out⟩
          case measure => simp [intOf]; omega
    · obtain ⟨q, hq⟩ : ∃ q, apB l = q := ⟨_, rfl⟩
      have HX : Hid (r = q) := Lib.hid (by
        have := HQ.out; rw [List.take_of_length_le (by omega)] at this
        rw [← HR.out]; unfold prmB; rw [decide_eq_true H64.out, this, hq]; rfl)
      have C := Lib.hid (isOnce_c φ _ l w q hq HV.out)
      clear hq
      go_wp2_with fail
      refine C.out.mono ?_
      rintro e w' ⟨rfl, m, rfl⟩
      go_wp2
      go_ret
      exact ⟨by rw [HX.out]; rfl, m, rfl⟩
end Go.Proofs.YteedhaenbamiaaaGreatDoor
