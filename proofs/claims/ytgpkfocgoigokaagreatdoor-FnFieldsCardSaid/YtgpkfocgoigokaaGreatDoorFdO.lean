/- A list of words, each a row of bytes of the call's own; lemmas for the splitters. -/
import Derived.Test.YtgpkfocgoigokaaGreatDoorFdS
import Derived.Test.YtgpkfocgoigokaaGreatDoorPlace
import Derived.Test.YtgpkfocgoigokaaGreatDoorSpWb
set_option linter.unusedVariables false
set_option linter.unusedSimpArgs false
namespace Go.Proofs.YtgpkfocgoigokaaGreatDoor
open Go.RowKit

/-- values that read as words, each in a block of bytes from base on, below hi -/
structure WAll (base hi : Nat) (w : World) (xs : List Value) (ws : List Tx) : Prop where
  len : xs.length = ws.length
  at_ : ∀ j (h : j < ws.length), ∃ x, xs[j]? = some x ∧ Bt base w x ws[j] ∧ ∀ g, x.ownBlock = some g → g < hi
theorem WAll.nil (base hi : Nat) (w : World) : WAll base hi w [] [] := ⟨rfl, fun j h => by simp at h⟩
theorem Bt.keepBelow {base hi : Nat} {w w' : World} {v : Value} {l : Tx} (h : Bt base w v l) (hh : ∀ g, v.ownBlock = some g → g < hi)
    (k : ∀ (g : Nat) (cur : Array Value) (fz : Nat × Nat), g < hi → w.heap[g]? = some (.cells cur 5 fz) → w'.heap[g]? = w.heap[g]?) : Bt base w' v l := by
  have h2 := (show Bq (fun g => g < hi ∧ ∃ cur fz, w.heap[g]? = some (.cells cur 5 fz)) w v l from ⟨h.1, fun g hg => ⟨hh g hg, (h.2 g hg).2⟩⟩).keep (w' := w') (fun g ⟨hl, cur, fz, hg⟩ _ => k g cur fz hl hg)
  exact ⟨h2.1, fun g hg => ⟨(h.2 g hg).1, by obtain ⟨cur, fz, e⟩ := (h.2 g hg).2; exact ⟨cur, fz, (k g cur fz (hh g hg) e).trans e⟩⟩⟩
theorem WAll.keep {base hi : Nat} {w w' : World} {xs : List Value} {ws : List Tx} (h : WAll base hi w xs ws)
    (k : ∀ (g : Nat) (cur : Array Value) (fz : Nat × Nat), g < hi → w.heap[g]? = some (.cells cur 5 fz) → w'.heap[g]? = w.heap[g]?) : WAll base hi w' xs ws :=
  ⟨h.len, fun j hj => by obtain ⟨x, e, hb, hl⟩ := h.at_ j hj; exact ⟨x, e, hb.keepBelow hl k, hl⟩⟩
theorem WAll.le {base hi : Nat} {w w' : World} {xs : List Value} {ws : List Tx} (h : WAll base hi w xs ws) (k : Le w w') : WAll base hi w' xs ws :=
  h.keep fun g _ _ _ hg => k.block g (lt_of_heap hg)
theorem WAll.mono {base hi hi' : Nat} {w : World} {xs : List Value} {ws : List Tx} (h : WAll base hi w xs ws) (k : hi ≤ hi') : WAll base hi' w xs ws :=
  ⟨h.len, fun j hj => by obtain ⟨x, e, hb, hl⟩ := h.at_ j hj; exact ⟨x, e, hb, fun g hg => Nat.lt_of_lt_of_le (hl g hg) k⟩⟩
theorem WAll.snoc {base hi : Nat} {w : World} {xs : List Value} {ws : List Tx} (h : WAll base hi w xs ws) {x : Value} {l : Tx} (hx : Bt base w x l) (hh : ∀ g, x.ownBlock = some g → g < hi) : WAll base hi w (xs ++ [x]) (ws ++ [l]) := by
  refine ⟨by simp [h.len], fun j hj => ?_⟩
  by_cases hlt : j < ws.length
  · obtain ⟨y, e1, e2⟩ := h.at_ j hlt
    exact ⟨y, by rw [List.getElem?_append_left (by rw [h.len]; exact hlt)]; exact e1, by rw [List.getElem_append_left hlt]; exact e2⟩
  · simp only [List.length_append, List.length_cons, List.length_nil] at hj
    obtain rfl : j = ws.length := by omega
    exact ⟨x, by rw [List.getElem?_append_right (by rw [h.len]; exact Nat.le_refl _), h.len, Nat.sub_self]; rfl, by simpa using hx, hh⟩
theorem WAll.ball {base hi : Nat} {w : World} {xs : List Value} {ws : List Tx} (h : WAll base hi w xs ws) : BAll w xs ws :=
  ⟨h.len, fun j hj => by obtain ⟨x, e, hb, _⟩ := h.at_ j hj; exact ⟨x, e, hb.1⟩⟩
/-- an append to a row of slices turns no block of bytes -/
theorem grown_u8 {w w' : World} {base : Nat} {v : Value} {n : Nat} {xs : List Value} (hown : w.ownsRow base 22 1 v n xs) (hgrow : w.grownBy w' v.ownBlock) :
    ∀ (g : Nat) (cur : Array Value) (fz : Nat × Nat), w.heap[g]? = some (.cells cur 5 fz) → w'.heap[g]? = w.heap[g]? := by
  intro g cur fz hg
  refine hgrow.block g (lt_of_heap hg) fun e => ?_
  obtain ⟨_, c, fz', he⟩ := own_row' hown g e.symm
  rw [hg] at he
  injection he with he
  injection he with _ he
  revert he
  decide
end Go.Proofs.YtgpkfocgoigokaaGreatDoor
