/- The statement's proof: the card. -/
import Derived.Test.YtbdeohmdpkkpdaaGreatDoorRowCo0
set_option linter.unusedVariables false
set_option linter.unusedSimpArgs false
namespace Go.Proofs.YtbdeohmdpkkpdaaGreatDoor.fnCodes
open Go.ChangeShapes Go.WideShapes Go.ChangeAt Go.RowKit

theorem jf0 : (Rows.fnCodesRow.inPlace == Tryz.pinned.checked.prog.inPlace 4) = true := by kernel_rfl
theorem jf1 : (Rows.fnCodesRow.unfollowed == Tryz.pinned.checked.prog.unfollowed 4) = true := by kernel_rfl
theorem jf2 : (Rows.fnCodesRow.recurses == Tryz.pinned.checked.prog.recurses 4) = true := by kernel_rfl
theorem jf3 : (Rows.fnCodesRow.named == Tryz.pinned.checked.prog.varsNamed 4) = true := by kernel_rfl
theorem joined : joinedFacts Tryz.pinned.checked.prog 4 Tryz.f4 Rows.fnCodesSpec Rows.fnCodesRow = true := by
  unfold joinedFacts
  simp only [jf0, jf1, jf2, jf3, Bool.and_true]
  kernel_rfl
theorem said : Rows.FnCodesSaid :=
  OpenClaim.holds_of_wide 4 Tryz.f4 rfl rfl rfl rfl rfl rfl rfl ⟨rfl, rfl, rfl, rfl, rfl⟩ rfl rfl rfl rfl rfl (by kernel_rfl) Tryz.func4 joined
    (of_decide_eq_true (by kernel_rfl)) (by unfold Func.isWrapper; first | (rw [if_pos (by decide +kernel)]; kernel_rfl) | (rw [if_neg (by decide +kernel)]; exact ⟨rfl, rfl⟩))
    (fun os started H enc _ => lifted os started H enc)
theorem plain (f : FuncId) (fn : Func) (hf : Tryz.pinned.checked.prog.funcNamed "pub-hailwright/laws.FnCodes" = some f) (hfn : Tryz.pinned.checked.prog.funcs[f]? = some fn) :
    true = Tryz.pinned.checked.prog.looks [] ∧ ∀ (j : Nat) t, fn.params[j]? = some t → Tryz.pinned.checked.prog.wantsStandIn t = false := by
  obtain rfl : f = 4 := Option.some.inj ((show Tryz.prog.funcNamed "pub-hailwright/laws.FnCodes" = some 4 by kernel_rfl).symm.trans hf) |>.symm
  obtain rfl : fn = Tryz.f4 := (Option.some.inj (Tryz.func4.symm.trans hfn)).symm
  refine ⟨by kernel_rfl, fun j t ht => ?_⟩
  have hm : t ∈ Tryz.f4.params.toList := by simpa using Array.mem_of_getElem? ht
  rw [params] at hm
  simp only [List.mem_cons, List.mem_nil_iff, or_false] at hm
  rcases hm with rfl <;> exact (show Tryz.prog.wantsStandIn _ = false by kernel_rfl)
/-- the card -/
theorem card : Rows.FnCodesCardSaid :=
  Claim7.holds_tied_plain_at .later [] _ _ _ _ said (fun _ h => by cases h) (by kernel_rfl) (fun _ h => by cases h) fnCodes_row_tie rfl ⟨rfl, rfl⟩ (by kernel_rfl) rfl plain (by kernel_rfl)
#print axioms card
end Go.Proofs.YtbdeohmdpkkpdaaGreatDoor.fnCodes
