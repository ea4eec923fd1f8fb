/- Contracts: the specification's isPrinted, allValued, lowered, parts; append of bytes. -/
import Derived.Test.YtbdeohmdpkkpdaaGreatDoorSpW3
set_option linter.unusedVariables false
set_option linter.unusedSimpArgs false
namespace Go.Proofs.YtbdeohmdpkkpdaaGreatDoor
open Go.RowKit

/-! ### isPrinted -/
def pch (c : UInt8) : Bool := 33 ≤ c && c ≤ 126 && c != 60 && c != 62 && c != 34 && c != 44
theorem pch_eq (c : UInt8) : pch c = (decide (33 ≤ (c.toNat : Int)) && decide ((c.toNat : Int) ≤ 126) && !hasB (bs ⟨#[60, 62, 34, 44]⟩) c) := by
  have e1 : (33 : UInt8).toNat = 33 := rfl
  have e2 : (126 : UInt8).toNat = 126 := rfl
  have h1 : decide ((33 : UInt8) ≤ c) = decide (33 ≤ (c.toNat : Int)) := by
    rw [Bool.eq_iff_iff]; simp only [decide_eq_true_eq, UInt8.le_iff_toNat_le]; omega
  have h2 : decide (c ≤ (126 : UInt8)) = decide ((c.toNat : Int) ≤ 126) := by
    rw [Bool.eq_iff_iff]; simp only [decide_eq_true_eq, UInt8.le_iff_toNat_le]; omega
  have h3 : hasB (bs ⟨#[60, 62, 34, 44]⟩) c = (c == 60 || (c == 62 || (c == 34 || (c == 44 || false)))) := rfl
  unfold pch
  rw [h1, h2, h3]
  cases h60 : (c == 60) <;> cases h62 : (c == 62) <;> cases h34 : (c == 34) <;> cases h44 : (c == 44) <;> simp [bne, h60, h62, h34, h44]
/-! ### allValued -/
theorem bv_slice {w : World} {v : Value} {l : Tx} (h : Bv w v l) : ∃ A c, v = .slice A l.length c ∧ l.length ≤ 140737488355328 := by
  obtain ⟨A, c, e, _, _, h4⟩ := h; exact ⟨A, c, e, h4.1⟩
/-! ### append of bytes -/
/-- the cells of bytes -/
def u8s (l : Tx) : List Value := l.map fun c => Value.int .u8 (c.toNat : Int)
/-- a row of bytes of the call's own -/
def OwnB (base : Nat) (w : World) (v : Value) (l : Tx) : Prop := w.ownsRow base 5 1 v l.length (u8s l)
theorem u8_info : ((Tryz.prog).info? 5).map (fun i => (i.zero, i.size, i.bytes)) = some (some (.int .u8 0), 1, 1) := by kernel_rfl
theorem OwnB.nil (base : Nat) (w : World) : OwnB base w (.slice none 0 0) [] := World.ownsRow_nil _ _ _ _
theorem OwnB.le {base : Nat} {w w' : World} {v : Value} {l : Tx} (h : OwnB base w v l) (k : Le w w') : OwnB base w' v l := own_le h k
theorem OwnB.bv {base : Nat} {w : World} {v : Value} {l : Tx} (h : OwnB base w v l) (hl : l.length ≤ 140737488355328) : Bv w v l := by
  have h0 := h
  obtain ⟨_, h2⟩ := h
  rcases h2 with ⟨rfl, hn⟩ | ⟨g, cap, cur, rfl, hg, hh, hle, hm, hs, ht⟩
  · obtain rfl : l = [] := List.eq_nil_of_length_eq_zero hn
    exact Bv.nil w
  · unfold maxLen at hm
    refine ⟨_, _, rfl, hle, hm, hl, fun _ => ⟨g, 0, rfl, fun j hj => ?_⟩⟩
    have := h0.cells (g := g) rfl j (.int .u8 (l[j].toNat : Int)) (by unfold u8s; simp [List.getElem?_eq_getElem hj])
    rw [add_adr] at this
    exact this
theorem OwnB.bt {base : Nat} {w : World} {v : Value} {l : Tx} (h : OwnB base w v l) (hl : l.length ≤ 140737488355328) : Bt base w v l := ⟨h.bv hl, own_row' h⟩
set_option maxRecDepth 4000 in
theorem run_append_bv {w : World} {base : Nat} {v x : Value} {l m : Tx} (hown : OwnB base w v l) (hx : Bv w x m) (hl : l.length + m.length ≤ 140737488355328) (hbase : base ≤ w.heap.size) (ty : TypeId) :
    ∃ v' w', (Builtin.append_ #[22, 22] ty #[v, x]).run Tryz.prog w = .ok v' w' ∧ OwnB base w' v' (l ++ m) ∧ w.grownBy w' v.ownBlock := by
  obtain ⟨i0, hi0, hz0, hz1, hz2⟩ := info_parts u8_info
  obtain ⟨A, c, rfl, h1, h2, h3, h4⟩ := hx
  cases A with
  | none =>
    have hm : m.length = 0 := by
      rcases Nat.eq_zero_or_pos m.length with h | h
      · exact h
      · obtain ⟨_, _, e, _⟩ := h4 h; cases e
    obtain rfl : m = [] := List.eq_nil_of_length_eq_zero hm
    refine ⟨v, w, ?_, by rw [List.append_nil]; exact hown, World.grownBy.refl w _⟩
    rcases hown.2 with ⟨rfl, h5⟩ | ⟨g, cap, cur, rfl, _, _, hnc, _⟩
    · simp [Builtin.append_, run_underlying Tryz.underlying22, sizeOf, typeInfo, hi0, Builtin.lenOf, Builtin.firstCells]
    · simp [Builtin.append_, run_underlying Tryz.underlying22, sizeOf, typeInfo, hi0, Builtin.lenOf, Builtin.firstCells, hnc, storeCells]
  | some ad =>
    obtain ⟨v', w', q, k1, k2, _⟩ := run_append_own (P := Tryz.prog) w base 22 ty 5 i0 (.int .u8 0) 1 1 Tryz.underlying22 hi0 hz0 hz1 hz2 rfl (by decide) v l.length (u8s l) hown ad m.length c (u8s m) (by unfold u8s; simp) (fun j u hu => by
      unfold u8s at hu
      rw [List.getElem?_map] at hu
      have hj : j < m.length := by
        rcases Nat.lt_or_ge j m.length with h | h
        · exact h
        · rw [List.getElem?_eq_none h] at hu; cases hu
      rw [List.getElem?_eq_getElem hj, Option.map_some, Option.some.injEq] at hu
      subst hu
      obtain ⟨b, o, e, hc⟩ := h4 (by omega)
      injection e with e
      subst e
      rw [add_adr]
      exact hc j hj) (fun u hu => by
      unfold u8s at hu
      obtain ⟨_, _, rfl⟩ := List.mem_map.1 hu
      rfl) (by unfold maxLen; omega) (by omega) hbase
    refine ⟨v', w', q, ?_, k2⟩
    unfold OwnB
    rw [List.length_append]
    unfold u8s at k1 ⊢
    rw [List.map_append]
    exact k1
theorem wpList_append_bv {w : World} {ops : Array Oper} {rest : List Oper} {o : Oper} {a : Act} {Q : Exit → Act → World → Prop} (hgd : o.guard = none) (s x : Operand)
    (ho : o.op = .call { callee := .builtin .append, args := #[s, x], argTypes := #[22, 22] }) {base : Nat} {v xv : Value} {l m : Tx} (hs : a.eval s = v) (hx : a.eval x = xv)
    (hown : OwnB base w v l) (hm : Bv w xv m) (hl : l.length + m.length ≤ 140737488355328) (hbase : base ≤ w.heap.size)
    (h : ∀ v' w', OwnB base w' v' (l ++ m) → w.grownBy w' v.ownBlock → wpList Tryz.prog ops Q rest (a.put o.dst v') w') : wpList Tryz.prog ops Q (o :: rest) a w := by
  refine wpList_plain hgd fun K hK => ?_
  obtain ⟨v', w', q, k1, k2⟩ := run_append_bv hown hm hl hbase o.type
  unfold Oper.wp execOp
  simp only [ho, resolve, invoke, builtin, Sem.run_bind, Sem.run_pure, Result.andThen_ok, List.map_toArray, List.map_cons, List.map_nil, hs, hx, q]
  exact hK _ _ (h v' w' k1 k2)
end Go.Proofs.YtbdeohmdpkkpdaaGreatDoor
