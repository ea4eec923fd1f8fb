/- What came in: numbers, truths. -/
import Derived.Test.YteedhaenbamiaaaGreatDoorRow0
set_option linter.unusedVariables false
set_option linter.unusedSimpArgs false
namespace Go.Proofs.YteedhaenbamiaaaGreatDoor
open Go.ChangeShapes Go.WideShapes Go.ChangeAt Go.RowKit

section
variable {H : Type} {enc : TypeId × Value → H}
set_option maxRecDepth 100000 in
set_option linter.constructorNameAsVariable false in
theorem open_int {W : World} {held : Bool} {base : Nat} {t : TypeId} {k : IntKind} {v : Value} {d : DataW H} {p : List MemPlace} (ht : Tryz.prog.underlying t = some (.int k)) (hk : Value.okWide Tryz.prog W .any base t v)
    (h : DataW.Trod enc Tryz.prog W 0 (fun _ => true) held t v d p) : ∃ n, v = .int k n ∧ d = .lit (.int k n) ∧ p = [] ∧ (k.min ≤ n ∧ n ≤ k.max) := by
  obtain ⟨m, rfl⟩ := okWide_int ht hk
  obtain ⟨fuel, hf⟩ := h
  obtain ⟨n, hc, hx, hw⟩ := DataW.trod_int ht hf
  injection hc with hc
  injection hc with _ hc
  subst hc
  injection hx with h1 h2
  exact ⟨m, rfl, h1, h2, by simpa [Lit.wf] using hw⟩
set_option maxRecDepth 100000 in
set_option linter.constructorNameAsVariable false in
theorem open_bool {W : World} {held : Bool} {base : Nat} {t : TypeId} {v : Value} {d : DataW H} {p : List MemPlace} (ht : Tryz.prog.underlying t = some .bool) (hk : Value.okWide Tryz.prog W .any base t v)
    (h : DataW.Trod enc Tryz.prog W 0 (fun _ => true) held t v d p) : ∃ b, v = .bool b ∧ d = .lit (.bool b) ∧ p = [] := by
  obtain ⟨m, rfl⟩ := okWide_bool ht hk
  obtain ⟨fuel, hf⟩ := h
  obtain ⟨n, hc, hx⟩ := DataW.trod_bool ht hf
  injection hc with hc
  injection hc with hc
  subst hc
  injection hx with h1 h2
  exact ⟨m, rfl, h1, h2⟩
end
end Go.Proofs.YteedhaenbamiaaaGreatDoor
