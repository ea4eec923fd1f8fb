/- Contract: the law FnParamsEnd. -/
import Derived.Test.YteedhaenbamiaaaGreatDoorPTx
import Derived.Test.YteedhaenbamiaaaGreatDoorPms
set_option linter.unusedVariables false
set_option linter.unusedSimpArgs false
namespace Go.Proofs.YteedhaenbamiaaaGreatDoor
open Go.RowKit

/-- two slices of bytes, one behind the other -/
theorem sl_two (W : World) (x y : Value) (a b : Tx) (hx : Bv W x a) (hy : Bv W y b) : Sl (W.alloc (Obj.cells #[x, y] 22)) (W.alloc (Obj.cells #[x, y] 22)) (.slice (some ⟨W.heap.size, 0, none⟩) 2 2) [a, b] := by
  refine ⟨_, 2, rfl, by simp, by simp, by simp, fun _ => ⟨W.heap.size, 0, rfl, fun j hj => ?_⟩⟩
  have hle : Le W (W.alloc (Obj.cells #[x, y] 22)) := (Le.refl W).alloc _
  rw [Nat.zero_add, cell_cells (heap_alloc_new W _) j]
  match j, hj with
  | 0, _ => exact ⟨_, rfl, hx.le hle⟩
  | 1, _ => exact ⟨_, rfl, hy.le hle⟩
theorem pText_q (v : Value) (l : KVs) (sep : UInt8) (a : Int) (ha : a = (sep.toNat : Int)) (w : World) (hv : Kq (fun _ => True) w v l) (hg : PrmG l) :
    Calls Tryz.prog 62 #[v, .int .u8 a] w fun e w' => ∃ v', e = .returned v' ∧ OwnB w.heap.size w' v' (ptT l sep) ∧ Le w w' := by
  subst ha
  refine (pText_c v l sep w hv (fun k hk => by have := hg.ptlen sep k hk; omega) (fun x hx => by have := hg.sm x hx; omega)).mono ?_
  rintro e w' ⟨v', h1, h2, h3⟩
  rw [ptP_all] at h2
  exact ⟨v', h1, h2, h3⟩
theorem PrmG.tlen {l : KVs} (h : PrmG l) (sep : UInt8) : (ptT l sep).length ≤ 2097152 := by rw [← ptP_all]; exact h.ptlen sep _ (Nat.le_refl _)
structure GoodPE (l : KVs) (tl ot : Tx) : Prop where
  prm : PrmG l
  ne : l ≠ []
  last : lastV l ≠ []
  tl : tl.length ≤ 8192
  ot : ot.length ≤ 8192
theorem lastV_len {l : KVs} {m : Nat} (h : m < l.length) (e : m = l.length - 1) : lastV l = l[m].2 := by
  subst e
  unfold lastV
  rw [List.getLast?_eq_getElem?, List.getElem?_eq_getElem h]
  rfl

end Go.Proofs.YteedhaenbamiaaaGreatDoor
