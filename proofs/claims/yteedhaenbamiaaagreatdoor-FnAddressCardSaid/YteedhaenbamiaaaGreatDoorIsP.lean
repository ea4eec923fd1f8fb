/- Contracts: the specification's isToken, isValue, IsPairs (printed by gen_isp.py). -/
import Derived.Test.YteedhaenbamiaaaGreatDoorSpWc
import Derived.Test.YteedhaenbamiaaaGreatDoorLw
set_option linter.unusedVariables false
set_option linter.unusedSimpArgs false
namespace Go.Proofs.YteedhaenbamiaaaGreatDoor
open Go.RowKit

def tkq (c : UInt8) : Bool := isAn c || tokenL.contains c
theorem isTok_all (l : Tx) : isTok l = (l.all tkq && !l.isEmpty) := rfl
set_option maxRecDepth 4000 in
set_option maxHeartbeats 4000000 in
theorem isToken_c (v : Value) (l : Tx) (w : World) (hv : Bv w v l) : Calls Tryz.prog 97 #[v] w fun e w' => e = .returned (.bool (isTok l)) ∧ w = w' := by
  obtain ⟨A, cc, rfl, h1, h2, h4⟩ := hv
  have h3 := h4.1
  have HR := Lib.hid h4
  clear h4
  go_enter Tryz.func97, Tryz.ntmps97
  go_wp2
  go_loop [3] (fun i => ∃ k : Nat, k ≤ l.length ∧ i = .int .i64 k ∧ (l.take k).all tkq = true) (fun i => l.length - (intOf i).toNat)
  case atStart => exact ⟨0, Nat.zero_le _, rfl, rfl⟩
  case round =>
    obtain ⟨k, hk, rfl, hq⟩ := hrel
    have HQ := Lib.hid hq
    clear hq
    by_cases hlt : k < l.length
    · obtain ⟨b, o, rfl, d1⟩ := HR.out.at_ hlt
      have ci := isAlnum_c l[k] w
      have cj := isIn_c l[k] ⟨#[45, 46, 33, 37, 42, 95, 43, 96, 39, 126]⟩ w (by decide)
      by_cases hp : isAn l[k] = true
      · have HX : Hid ((l.take (k + 1)).all tkq = true) := Lib.hid (by rw [List.take_succ_eq_append_getElem hlt, List.all_append, HQ.out]; simp [tkq, hp])
        have CI := Lib.hid (bool_call ci hp)
        clear ci cj hp
        generalize (l[k].toNat : Int) = x at d1 CI
        go_wp2_with (go_at_call 44; refine CI.out.mono ?_; rintro e w' ⟨rfl, rfl⟩)
        go_round
        case rel => exact ⟨k + 1, by omega, by go_num, HX.out⟩
        case measure => simp [intOf]; omega
      · have hp' : isAn l[k] = false := by simpa using hp
        have CI := Lib.hid (bool_call ci hp')
        by_cases hi : hasB (bs ⟨#[45, 46, 33, 37, 42, 95, 43, 96, 39, 126]⟩) l[k] = true
        · have HX : Hid ((l.take (k + 1)).all tkq = true) := Lib.hid (by
            have h9 : tkq l[k] = true := by unfold tkq; rw [hp', Bool.false_or]; exact hi
            rw [List.take_succ_eq_append_getElem hlt, List.all_append, HQ.out]; simp [h9])
          have CJ := Lib.hid (bool_call cj hi)
          clear ci cj hp hp' hi
          generalize (l[k].toNat : Int) = x at d1 CI CJ
          go_wp2_with (first | (go_at_call 44; refine CI.out.mono ?_; rintro e w' ⟨rfl, rfl⟩) | (go_at_call 95; refine CJ.out.mono ?_; rintro e w' ⟨rfl, rfl⟩))
          go_round
          case rel => exact ⟨k + 1, by omega, by go_num, HX.out⟩
          case measure => simp [intOf]; omega
        · have hi' : hasB (bs ⟨#[45, 46, 33, 37, 42, 95, 43, 96, 39, 126]⟩) l[k] = false := by simpa using hi
          have HX : Hid ((isTok l) = false) := Lib.hid (by
            have h9 : tkq l[k] = false := by unfold tkq; rw [hp', Bool.false_or]; exact hi'
            have h8 : l.all tkq = false := List.all_eq_false.2 ⟨l[k], List.getElem_mem hlt, by simp [h9]⟩
            first | exact h8 | (rw [isTok_all, h8]; rfl))
          have CJ := Lib.hid (bool_call cj hi')
          clear ci cj hp hp' hi hi'
          generalize (l[k].toNat : Int) = x at d1 CI CJ
          go_wp2_with (first | (go_at_call 44; refine CI.out.mono ?_; rintro e w' ⟨rfl, rfl⟩) | (go_at_call 95; refine CJ.out.mono ?_; rintro e w' ⟨rfl, rfl⟩))
          go_ret
          exact ⟨by rw [HX.out]; rfl, rfl⟩
    · have HA : Hid (l.all tkq = true) := Lib.hid (by have := HQ.out; rw [List.take_of_length_le (by omega)] at this; exact this)
      by_cases h0 : 0 < l.length
      · have HX : Hid (isTok l = true) := Lib.hid (by rw [isTok_all, HA.out]; cases l with | nil => simp at h0 | cons _ _ => rfl)
        have h0' : decide ((0 : Int) < (l.length : Int)) = true := decide_eq_true (by omega)
        go_wp2
        go_ret
        exact ⟨by rw [HX.out]; rfl, rfl⟩
      · have HX : Hid (isTok l = false) := Lib.hid (by have : l = [] := List.eq_nil_of_length_eq_zero (by omega); rw [this]; rfl)
        have H0 : Hid (decide (0 < l.length) = false) := Lib.hid (decide_eq_false h0)
        clear h0
        go_wp2
        go_ret
        exact ⟨by rw [HX.out, H0.out]; rfl, rfl⟩
set_option maxRecDepth 4000 in
set_option maxHeartbeats 4000000 in
theorem isValue_c (v : Value) (l : Tx) (w : World) (hv : Bv w v l) : Calls Tryz.prog 115 #[v] w fun e w' => e = .returned (.bool (l.all tkq)) ∧ w = w' := by
  obtain ⟨A, cc, rfl, h1, h2, h4⟩ := hv
  have h3 := h4.1
  have HR := Lib.hid h4
  clear h4
  go_enter Tryz.func115, Tryz.ntmps115
  go_wp2
  go_loop [3] (fun i => ∃ k : Nat, k ≤ l.length ∧ i = .int .i64 k ∧ (l.take k).all tkq = true) (fun i => l.length - (intOf i).toNat)
  case atStart => exact ⟨0, Nat.zero_le _, rfl, rfl⟩
  case round =>
    obtain ⟨k, hk, rfl, hq⟩ := hrel
    have HQ := Lib.hid hq
    clear hq
    by_cases hlt : k < l.length
    · obtain ⟨b, o, rfl, d1⟩ := HR.out.at_ hlt
      have ci := isAlnum_c l[k] w
      have cj := isIn_c l[k] ⟨#[45, 46, 33, 37, 42, 95, 43, 96, 39, 126]⟩ w (by decide)
      by_cases hp : isAn l[k] = true
      · have HX : Hid ((l.take (k + 1)).all tkq = true) := Lib.hid (by rw [List.take_succ_eq_append_getElem hlt, List.all_append, HQ.out]; simp [tkq, hp])
        have CI := Lib.hid (bool_call ci hp)
        clear ci cj hp
        generalize (l[k].toNat : Int) = x at d1 CI
        go_wp2_with (go_at_call 44; refine CI.out.mono ?_; rintro e w' ⟨rfl, rfl⟩)
        go_round
        case rel => exact ⟨k + 1, by omega, by go_num, HX.out⟩
        case measure => simp [intOf]; omega
      · have hp' : isAn l[k] = false := by simpa using hp
        have CI := Lib.hid (bool_call ci hp')
        by_cases hi : hasB (bs ⟨#[45, 46, 33, 37, 42, 95, 43, 96, 39, 126]⟩) l[k] = true
        · have HX : Hid ((l.take (k + 1)).all tkq = true) := Lib.hid (by
            have h9 : tkq l[k] = true := by unfold tkq; rw [hp', Bool.false_or]; exact hi
            rw [List.take_succ_eq_append_getElem hlt, List.all_append, HQ.out]; simp [h9])
          have CJ := Lib.hid (bool_call cj hi)
          clear ci cj hp hp' hi
          generalize (l[k].toNat : Int) = x at d1 CI CJ
          go_wp2_with (first | (go_at_call 44; refine CI.out.mono ?_; rintro e w' ⟨rfl, rfl⟩) | (go_at_call 95; refine CJ.out.mono ?_; rintro e w' ⟨rfl, rfl⟩))
          go_round
          case rel => exact ⟨k + 1, by omega, by go_num, HX.out⟩
          case measure => simp [intOf]; omega
        · have hi' : hasB (bs ⟨#[45, 46, 33, 37, 42, 95, 43, 96, 39, 126]⟩) l[k] = false := by simpa using hi
          have HX : Hid ((l.all tkq) = false) := Lib.hid (by
            have h9 : tkq l[k] = false := by unfold tkq; rw [hp', Bool.false_or]; exact hi'
            have h8 : l.all tkq = false := List.all_eq_false.2 ⟨l[k], List.getElem_mem hlt, by simp [h9]⟩
            first | exact h8 | (rw [isTok_all, h8]; rfl))
          have CJ := Lib.hid (bool_call cj hi')
          clear ci cj hp hp' hi hi'
          generalize (l[k].toNat : Int) = x at d1 CI CJ
          go_wp2_with (first | (go_at_call 44; refine CI.out.mono ?_; rintro e w' ⟨rfl, rfl⟩) | (go_at_call 95; refine CJ.out.mono ?_; rintro e w' ⟨rfl, rfl⟩))
          go_ret
          exact ⟨by rw [HX.out]; rfl, rfl⟩
    · have HA : Hid (l.all tkq = true) := Lib.hid (by have := HQ.out; rw [List.take_of_length_le (by omega)] at this; exact this)
      go_wp2
      go_ret
      exact ⟨by rw [HA.out]; rfl, rfl⟩
def ipq (x : Tx × Tx) : Bool := isTok x.1 && x.2.all tkq
def ipB (l : KVs) : Bool := l.all ipq && apB l
set_option maxRecDepth 4000 in
set_option maxHeartbeats 4000000 in
theorem isPairs_c (φ : Nat → Prop) (v : Value) (l : KVs) (w : World) (hv : Kq φ w v l) : Calls Tryz.prog 99 #[v] w fun e w' => e = .returned (.bool (ipB l)) ∧ Le w w' := by
  have HV := Lib.hid hv
  obtain ⟨A, cc, rfl, h1, h2, h3, h5⟩ := hv
  have H5 := Lib.hid h5
  clear h5
  go_enter Tryz.func99, Tryz.ntmps99
  go_wp2
  go_loop [3] (fun i => ∃ k : Nat, k ≤ l.length ∧ i = .int .i64 k ∧ (l.take k).all ipq = true) (fun i => l.length - (intOf i).toNat)
  case atStart => exact ⟨0, Nat.zero_le _, rfl, rfl⟩
  case round =>
    obtain ⟨k, hk, rfl, hq⟩ := hrel
    have HQ := Lib.hid hq
    clear hq
    by_cases hlt : k < l.length
    · obtain ⟨g, o, rfl, _, hc⟩ := H5.out (by omega)
      obtain ⟨x, y, d1, d2, hx, hy⟩ := hc k hlt
      have CI := Lib.hid (isToken_c x l[k].1 w hx.1)
      have CJ := Lib.hid (isValue_c y l[k].2 w hy.1)
      clear hc hx hy
      by_cases hp : isTok l[k].1 = true
      · rw [hp] at CI
        by_cases hi : l[k].2.all tkq = true
        · rw [hi] at CJ
          have HX : Hid ((l.take (k + 1)).all ipq = true) := Lib.hid (by
            have h9 : ipq l[k] = true := by unfold ipq; rw [hp, hi]; rfl
            rw [List.take_succ_eq_append_getElem hlt, List.all_append, HQ.out]; simp [h9])
          clear hp hi
          go_wp2_with (first | (go_at_call 97; refine CI.out.mono ?_; rintro e w' ⟨rfl, rfl⟩) | (go_at_call 115; refine CJ.out.mono ?_; rintro e w' ⟨rfl, rfl⟩))
          go_round
          case rel => exact ⟨k + 1, by omega, by go_num, HX.out⟩
          case measure => simp [intOf]; omega
        · have hi' : l[k].2.all tkq = false := by simpa using hi
          rw [hi'] at CJ
          have HX : Hid (ipB l = false) := Lib.hid (by
            have h9 : ipq l[k] = false := by unfold ipq; rw [hi']; simp
            unfold ipB; rw [List.all_eq_false.2 ⟨l[k], List.getElem_mem hlt, by simp [h9]⟩]; rfl)
          clear hp hi hi'
          go_wp2_with (first | (go_at_call 97; refine CI.out.mono ?_; rintro e w' ⟨rfl, rfl⟩) | (go_at_call 115; refine CJ.out.mono ?_; rintro e w' ⟨rfl, rfl⟩))
          go_ret
          exact ⟨by rw [HX.out]; rfl, Le.refl _⟩
      · have hp' : isTok l[k].1 = false := by simpa using hp
        rw [hp'] at CI
        have HX : Hid (ipB l = false) := Lib.hid (by
          have h9 : ipq l[k] = false := by unfold ipq; rw [hp']; rfl
          unfold ipB; rw [List.all_eq_false.2 ⟨l[k], List.getElem_mem hlt, by simp [h9]⟩]; rfl)
        clear hp hp' CJ
        go_wp2_with (go_at_call 97; refine CI.out.mono ?_; rintro e w' ⟨rfl, rfl⟩)
        go_ret
        exact ⟨by rw [HX.out]; rfl, Le.refl _⟩
    · have HA : Hid (l.all ipq = true) := Lib.hid (by have := HQ.out; rw [List.take_of_length_le (by omega)] at this; exact this)
      have HX : Hid (ipB l = apB l) := Lib.hid (by unfold ipB; rw [HA.out]; rfl)
      go_wp2_with fail
      refine (isApart_c φ _ l w HV.out).mono ?_
      rintro e w' ⟨rfl, hle⟩
      have HLE := Lib.hid hle
      clear hle
      go_wp2
      go_ret
      exact ⟨by rw [HX.out]; rfl, HLE.out⟩
end Go.Proofs.YteedhaenbamiaaaGreatDoor
