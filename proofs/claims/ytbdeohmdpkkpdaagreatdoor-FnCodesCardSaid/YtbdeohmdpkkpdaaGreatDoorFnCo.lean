/- Contract: the law FnCodes. -/
import Derived.Test.YtbdeohmdpkkpdaaGreatDoorCodes
import Derived.Test.YtbdeohmdpkkpdaaGreatDoorKnown3
set_option linter.unusedVariables false
set_option linter.unusedSimpArgs false
namespace Go.Proofs.YtbdeohmdpkkpdaaGreatDoor
open Go.RowKit

set_option maxRecDepth 8000 in
set_option maxHeartbeats 4000000 in
theorem fnCodes_c (w : World) (n : Int) (h0 : -9223372036854775808 ≤ n ∧ n ≤ 9223372036854775807) (hL : Laid w) :
    Calls Tryz.prog 4 #[.int .i64 n] w fun e w' => e = .returned (.bool true) ∧ Le w w' := by
  have HL := Lib.hid hL
  have H0 := Lib.hid h0
  clear hL h0
  go_enter Tryz.func4, Tryz.ntmps4
  go_wp2_with fail
  refine (iMethod_c w n).mono ?_
  rintro e w1 ⟨rfl, hle1⟩
  have HLE1 := Lib.hid hle1
  clear hle1
  by_cases hr : 100 ≤ n ∧ n < 700
  · obtain ⟨e1, e2, e3, e4, e5, e6⟩ := md_law hr.1 hr.2
    rw [e1, e2, e3, e4, e5, e6]
    have HM := Lib.hid (sMethod_c w1 n H0.out.1 H0.out.2)
    have HR := Lib.hid hr
    clear e1 e2 e3 e4 e5 e6 hr
    generalize mdB n 1 = b1 at HM ⊢
    generalize mdB n 2 = b2 at HM ⊢
    generalize mdB n 3 = b3 at HM ⊢
    generalize mdB n 4 = b4 at HM ⊢
    generalize mdB n 5 = b5 at HM ⊢
    generalize mdB n 6 = b6 at HM ⊢
    go_wp2_with fail
    refine HM.out.mono ?_
    rintro e w' ⟨rfl, ⟨hx, _⟩ | ⟨_, rfl⟩⟩
    · exfalso; have := HR.out; omega
    go_wp2_with fail
    refine (known_c w' (HL.out.le HLE1.out)).mono ?_
    rintro e w2 ⟨rfl, hle2⟩
    have HLE2 := Lib.hid (HLE1.out.trans hle2)
    clear hle2
    go_wp2
    go_ret
    exact ⟨rfl, HLE2.out⟩
  · have HR := Lib.hid hr
    clear hr
    generalize decide (n < 200) = b1
    generalize (decide (200 ≤ n) && decide (n < 300)) = b2
    generalize (decide (300 ≤ n) && decide (n < 400)) = b3
    generalize (decide (400 ≤ n) && decide (n < 500)) = b4
    generalize (decide (500 ≤ n) && decide (n < 600)) = b5
    generalize decide (600 ≤ n) = b6
    go_wp2_with fail
    refine (sMethod_c w1 n H0.out.1 H0.out.2).mono ?_
    rintro e w' ⟨rfl, ⟨_, rfl⟩ | ⟨hx, _⟩⟩
    · go_wp2_with fail
      refine (known_c w' (HL.out.le HLE1.out)).mono ?_
      rintro e w2 ⟨rfl, hle2⟩
      have HLE2 := Lib.hid (HLE1.out.trans hle2)
      clear hle2
      go_wp2
      go_ret
      exact ⟨rfl, HLE2.out⟩
    · exact absurd hx HR.out
end Go.Proofs.YtbdeohmdpkkpdaaGreatDoor
