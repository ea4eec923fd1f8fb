/- Contracts: the laws' isUriOf, FnParseUri (printed by gen_fnparse.py). -/
import Derived.Test.YteedhaenbamiaaaGreatDoorSpW9
import Derived.Test.YteedhaenbamiaaaGreatDoorUriOf
set_option linter.unusedVariables false
set_option linter.unusedSimpArgs false
namespace Go.Proofs.YteedhaenbamiaaaGreatDoor
open Go.RowKit

def ioS (w : World) (x z : UV) (u v2 : PU) : Nat → Value → World → Prop
  | 2, v, _ => v = (.pointer (some ⟨w.heap.size, 0, none⟩))
  | 3, v, _ => v = (.pointer (some ⟨w.heap.size + 1, 0, none⟩))
  | 5, v, _ => v = x.val
  | 6, v, W => ∃ y : UV, v = y.val ∧ Uq (fun _ => True) W y u
  | 7, v, _ => v = z.val
  | 8, v, _ => v = .bool (puB u v2)
  | 4, v, _ => v = .bool (puB u v2)
  | _, _, _ => True
theorem ioS_le (w : World) (x z : UV) (u v2 : PU) (t : Nat) (v : Value) (w1 w2 : World) (k : Le w1 w2) (h : ioS w x z u v2 t v w1) : ioS w x z u v2 t v w2 := by
  unfold ioS at h ⊢
  split at h <;> first | exact h | (obtain ⟨y, e, h⟩ := h; exact ⟨y, e, h.le k⟩)
def ioG (w : World) (x z : UV) (W : World) : Prop := Le w W ∧ W.heap[w.heap.size]? = some (.cells x.row 32 (0, 0)) ∧ W.heap[w.heap.size + 1]? = some (.cells z.row 36 (0, 0))
set_option maxRecDepth 4000 in
set_option maxHeartbeats 4000000 in
theorem isUriOf_c (φ ψ : Nat → Prop) (w : World) (x z : UV) (u v2 : PU) (hx : Uq φ w x u) (hz : Uq ψ w z v2) (hpl : u.ps.length ≤ 1099511627776) (hhl : u.hs.length ≤ 1099511627776) :
    Calls Tryz.prog 36 #[x.val, z.val] w fun e w' => e = .returned (.bool (puB u v2)) ∧ Le w w' := by
  have HX := Lib.hid hx
  have HZ := Lib.hid hz
  have hval : Hid (x.val = .agg #[x.scheme, x.raw, .bool x.wild, .bool x.slash, x.user, x.pass, x.host, .int .i64 x.port, x.ps, x.hs]) := Lib.hid rfl
  have hval2 : Hid (z.val = .agg #[z.scheme, z.raw, .bool z.wild, .bool z.slash, z.user, z.pass, z.host, .int .i64 z.port, z.ps, z.hs]) := Lib.hid rfl
  clear hx hz
  rw [hval.out, hval2.out]
  go_enter Tryz.func36, Tryz.ntmps36
  go_wp2
  have hm : (Tryz.prog).follows .mixedOrders = true := by kernel_rfl
  have hGl : ∀ w1 w2, Le w1 w2 → ioG w x z w1 → ioG w x z w2 := fun w1 w2 k h => ⟨Le.trans h.1 k, k.heap h.2.1, k.heap h.2.2⟩
  refine wp_region_grow_put (ioS w x z u v2) (fun _ _ => True) (ioG w x z) 9 [5, 6, 7, 8, 4] hm (by kernel_rfl) rfl rfl ?hG ?hold ?hs ?hend
  case hG => exact ⟨(((Le.refl w).alloc _).alloc _).drew, heap_alloc2_old w _ _, heap_alloc2_new w _ _⟩
  case hold =>
    intro t ht
    simp only [List.mem_cons, List.mem_nil_iff, or_false, not_or] at ht
    unfold ioS
    split <;> first | rfl | trivial | (exfalso; simp at ht)
  case hs =>
    refine ⟨?_, ?_, ?_, ?_, ?_, trivial⟩
    · refine GrowStep.det ?_
      intro a W hg hop
      have h0 : a.eval (.tmp 2) = (.pointer (some ⟨w.heap.size, 0, none⟩)) := (hop 2 (by simp [Op.operands, Call.operands]))
      refine ⟨x.val, ?_, rfl⟩
      have hs := loadAt_row (P := Tryz.prog) hg.2.1 Tryz.underlying32 rfl uri_size
      simp only [execOp, h0, hs, Sem.run_bind, Sem.run_pure, Result.andThen, Sem.run_map]
      rfl
    · refine GrowStep.call ?_ ?_ ?_ ?_
      · exact fun t v w1 w2 k h => ioS_le w x z u v2 t v w1 w2 k h
      · exact fun _ _ _ _ h => h
      · exact hGl
      intro a W hg hop
      have h0 : a.eval (.tmp 5) = x.val := (hop 5 (by simp [Op.operands, Call.operands]))
      have h0' : a.tmps[5]?.getD undef = x.val := by simpa [Act.eval] using h0
      refine ⟨13, #[x.val], ?_, (uriOf_c φ W x u (HX.out.le hg.1) hpl hhl).mono ?_⟩
      · simp only [execOp, h0]
        go_simp
      · rintro e w' ⟨y, rfl, hy, hle⟩; exact ⟨_, rfl, hle, y, rfl, hy⟩
    · refine GrowStep.det ?_
      intro a W hg hop
      have h0 : a.eval (.tmp 3) = (.pointer (some ⟨w.heap.size + 1, 0, none⟩)) := (hop 3 (by simp [Op.operands, Call.operands]))
      refine ⟨z.val, ?_, rfl⟩
      have hs := loadAt_row (P := Tryz.prog) hg.2.2 Tryz.underlying36 rfl spu_sizeU
      simp only [execOp, h0, hs, Sem.run_bind, Sem.run_pure, Result.andThen, Sem.run_map]
      rfl
    · refine GrowStep.call ?_ ?_ ?_ ?_
      · exact fun t v w1 w2 k h => ioS_le w x z u v2 t v w1 w2 k h
      · exact fun _ _ _ _ h => h
      · exact hGl
      intro a W hg hop
      obtain ⟨y, h0, hy⟩ : ∃ y : UV, a.eval (.tmp 6) = y.val ∧ Uq (fun _ => True) W y u := (hop 6 (by simp [Op.operands, Call.operands]))
      have h1 : a.eval (.tmp 7) = z.val := (hop 7 (by simp [Op.operands, Call.operands]))
      have h0' : a.tmps[6]?.getD undef = y.val := by simpa [Act.eval] using h0
      have h1' : a.tmps[7]?.getD undef = z.val := by simpa [Act.eval] using h1
      refine ⟨49, #[y.val, z.val], ?_, (sSameUri_c _ ψ W y z u v2 hy (HZ.out.le hg.1)).mono ?_⟩
      · simp only [execOp, h0, h1]
        go_simp
      · rintro e w' ⟨rfl, hle⟩; exact ⟨_, rfl, hle, rfl⟩
    · refine GrowStep.det ?_
      intro a W hg hop
      have h0 : a.eval (.tmp 8) = .bool (puB u v2) := (hop 8 (by simp [Op.operands, Call.operands]))
      refine ⟨.bool (puB u v2), ?_, rfl⟩
      simp only [execOp, h0]
      go_simp
  case hend =>
    intro v w' hg hS hZ
    have s4 : v 4 = .bool (puB u v2) := hS 4 (by decide)
    have HG := Lib.hid hg.1
    clear hS hZ hg
    simp only [putsL, Act.put, List.setIfInBounds_toArray, List.set_cons_zero, List.set_cons_succ]
    rw [s4]
    go_wp2
    go_ret
    exact ⟨rfl, HG.out⟩

theorem row_one_cells {R : Array Value} {x : UV} (h : R = x.row) {φ : Nat → Prop} {w : World} {u : PU} (hx : Uq φ w x u) : R.all (·.oneCell') = true := by rw [h]; exact hx.one
end Go.Proofs.YteedhaenbamiaaaGreatDoor

