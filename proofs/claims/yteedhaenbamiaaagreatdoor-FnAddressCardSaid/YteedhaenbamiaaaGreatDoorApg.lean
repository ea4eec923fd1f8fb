/- A region that draws its order and holds an append to a row of bytes of the call's own. -/
import Derived.Test.YteedhaenbamiaaaGreatDoorPTx
import Derived.Test.YteedhaenbamiaaaGreatDoorGrowN
set_option linter.unusedVariables false
set_option linter.unusedSimpArgs false
namespace Go.Proofs.YteedhaenbamiaaaGreatDoor
open Go.RowKit

/-- bytes that do not lie in block g -/
def BvN (g : Option Nat) (w : World) (v : Value) (l : Tx) : Prop := Bv w v l ∧ ∀ k, v.ownBlock = some k → some k ≠ g
theorem BvN.le {g : Option Nat} {w w' : World} {v : Value} {l : Tx} (h : BvN g w v l) (k : Le w w') : BvN g w' v l := ⟨h.1.le k, h.2⟩
theorem BvN.grown {g : Option Nat} {w w' : World} {v : Value} {l : Tx} (h : BvN g w v l) (k : w.grownBy w' g) : BvN g w' v l := by
  obtain ⟨⟨A, c, rfl, h1, h2, h3, h4⟩, hn⟩ := h
  refine ⟨⟨A, c, rfl, h1, h2, h3, fun hp => ?_⟩, hn⟩
  obtain ⟨b, o, rfl, hc⟩ := h4 hp
  refine ⟨b, o, rfl, fun j hj => ?_⟩
  have hb : some b ≠ g := hn b rfl
  have hlt : b < w.heap.size := lt_of_cell (hc j hj)
  have e := k.block b hlt hb
  have h0 := hc j hj
  unfold World.cell? at h0 ⊢
  rw [e]
  exact h0
/-- bytes that were made behind the row -/
theorem BvN.new {g : Option Nat} {w0 w : World} {v : Value} {l : Tx} (h : Bv w v l) (hb : ∀ k, v.ownBlock = some k → w0.heap.size ≤ k) (hg : ∀ k, g = some k → k < w0.heap.size) : BvN g w v l :=
  ⟨h, fun k hk e => by have := hb k hk; have := hg k e.symm; omega⟩
theorem OwnB.lt {base : Nat} {w : World} {v : Value} {l : Tx} (h : OwnB base w v l) : ∀ k, v.ownBlock = some k → k < w.heap.size := fun k hk => by
  obtain ⟨_, c, fz, e⟩ := own_row' h k hk
  exact lt_of_heap e
/-- what such a region keeps -/
structure apG (W0 : World) (old : Value) (T : Tx) (w : World) : Prop where
  le : Le W0 w
  own : OwnB W0.heap.size w old T
theorem apG_le {W0 : World} {old : Value} {T : Tx} {w w' : World} (h : apG W0 old T w) (k : Le w w') : apG W0 old T w' := ⟨h.le.trans k, h.own.le k⟩
theorem OwnB.shape {base : Nat} {w : World} {v : Value} {l : Tx} (h : OwnB base w v l) : ∃ n A c, v = .slice A n c := by
  rcases h.2 with ⟨e, _⟩ | ⟨g, cap, cur, e, _⟩
  · exact ⟨0, none, 0, e⟩
  · exact ⟨_, _, _, e⟩

section
variable {P : Program} {Q : Exit → Act → World → Prop}
/-- an append, as one step of a region that draws -/
theorem GrowStep.append {S : Nat → Value → World → Prop} {Z : Nat → World → Prop} {G : World → Prop} {i : Nat} {o : Oper} (s x : Operand) (t : TypeId)
    (hop : o.op = Op.call { callee := Callee.builtin Builtin.append, args := #[s, x], argTypes := #[t, t] })
    (h : ∀ (a : Act) (w : World), G w → (∀ t, Operand.tmp t ∈ o.op.operands → S t (a.eval (.tmp t)) w) →
      ∃ v w', (Builtin.append_ #[t, t] o.type #[a.eval s, a.eval x]).run P w = .ok v w' ∧ G w' ∧ (∀ t u, o.dst ≠ some t → S t u w → S t u w') ∧ (∀ j, j ≠ i → Z j w → Z j w') ∧ SAt S Z i o.dst v w') : GrowStep P S Z G Q i o := by
  intro a w hg hop'
  obtain ⟨v, w', hr, h1, h2, h3, h4⟩ := h a w hg hop'
  unfold Oper.wp
  simp [execOp, hop, resolve, invoke, builtin, hr, Result.andThen]
  exact ⟨v, rfl, h1, h2, h3, h4⟩
end
end Go.Proofs.YteedhaenbamiaaaGreatDoor
