/- Regions that draw their order and hold several appends to rows of their own: what is known of the rows' blocks. -/
import Derived.Test.YteedhaenbamiaaaGreatDoorApg
import Derived.Test.YteedhaenbamiaaaGreatDoorGrowA
set_option linter.unusedVariables false
set_option linter.unusedSimpArgs false
namespace Go.Proofs.YteedhaenbamiaaaGreatDoor
open Go.RowKit

set_option maxRecDepth 100000 in
theorem run_append_side {w : World} {base : Nat} {v x : Value} {l m : Tx} (hown : OwnB base w v l) (hx : Bv w x m) (hl : l.length + m.length ≤ 140737488355328) (hbase : base ≤ w.heap.size) (ty : TypeId) :
    ∃ v' w', (Builtin.append_ #[22, 22] ty #[v, x]).run Tryz.prog w = .ok v' w' ∧ OwnB base w' v' (l ++ m) ∧ w.grownBy w' v.ownBlock ∧ OwnB base w' v l ∧ (v'.ownBlock = v.ownBlock ∨ ∀ g, v'.ownBlock = some g → w.heap.size ≤ g) := by
  obtain ⟨v', w', q, k1, k2, k3⟩ := run_append_keep hown hx hl hbase ty
  refine ⟨v', w', q, k1, k2, k3, ?_⟩
  obtain ⟨i0, hi0, hz0, hz1, hz2⟩ := info_parts u8_info
  rcases hown.2 with ⟨rfl, h5⟩ | ⟨g, cap, cur, rfl, hbg, hg, hnc, hcm, hcs, htk⟩
  · obtain rfl : l = [] := List.eq_nil_of_length_eq_zero h5
    obtain ⟨v2, w2, q2, r1, r2⟩ := run_append_bv (OwnB.nil w.heap.size w) hx hl (Nat.le_refl _) ty
    rw [q2] at q
    injection q with q1 q2
    subst q1
    exact .inr fun g hg => (own_row' r1 g hg).1
  · obtain ⟨A, c, rfl, h1, h2, h3, h4⟩ := hx
    cases A with
    | none =>
      have hm : m.length = 0 := by
        rcases Nat.eq_zero_or_pos m.length with h | h
        · exact h
        · obtain ⟨_, _, e, _⟩ := h4 h; cases e
      have q2 : (Builtin.append_ #[22, 22] ty #[.slice (some ⟨g, 0, none⟩) l.length cap, .slice none m.length c]).run Tryz.prog w = .ok (.slice (some ⟨g, 0, none⟩) l.length cap) w := by
        rw [hm]
        simp [Builtin.append_, run_underlying Tryz.underlying22, sizeOf, typeInfo, hi0, Builtin.lenOf, Builtin.firstCells, hnc, storeCells]
      rw [q2] at q
      injection q with q _
      subst q
      exact .inl rfl
    | some ad =>
      have hn : ∀ (j : Nat) (u : Value), (u8s m)[j]? = some u → w.cell? (ad.add j) = some u := fun j u hu => by
        unfold u8s at hu
        rw [List.getElem?_map] at hu
        have hj : j < m.length := by
          rcases Nat.lt_or_ge j m.length with h | h
          · exact h
          · rw [List.getElem?_eq_none h] at hu; cases hu
        rw [List.getElem?_eq_getElem hj, Option.map_some, Option.some.injEq] at hu
        subst hu
        obtain ⟨b, o, e, hc⟩ := h4 (by omega)
        injection e with e
        subst e
        rw [add_adr]
        exact hc j hj
      have h1c : ∀ u ∈ u8s m, u.oneCell' = true := fun u hu => by
        unfold u8s at hu
        obtain ⟨_, _, rfl⟩ := List.mem_map.1 hu
        rfl
      by_cases hroom : l.length + m.length ≤ cap
      · obtain ⟨w2, q2, r1, r2⟩ := run_append_own_spare (P := Tryz.prog) w base 22 ty 5 i0 1 Tryz.underlying22 hi0 hz1 g l.length cap (u8s l) hown ad m.length c (u8s m) (by unfold u8s; simp) hn h1c hroom
        rw [q2] at q
        injection q with q _
        subst q
        exact .inl rfl
      · obtain ⟨v2, w2, q2, r1, r2⟩ := run_append_arg_grows (P := Tryz.prog) w 22 ty 5 i0 (.int .u8 0) 1 1 Tryz.underlying22 hi0 hz0 hz1 hz2 rfl (by decide) ⟨g, 0, none⟩ l.length cap (u8s l) hown.1 (fun j u hu => by
          have hj : j < l.length := by
            rcases Nat.lt_or_ge j (u8s l).length with h | h
            · have := hown.1; omega
            · rw [List.getElem?_eq_none h] at hu; cases hu
          rw [add_adr, Nat.zero_add, World.ownsRow.cellAt hown j (by omega), hu]) ad m.length c (u8s m) (by unfold u8s; simp) hn (by omega) (by unfold maxLen; omega) (by omega)
        rw [q2] at q
        injection q with q _
        subst q
        exact .inr fun g hg => (own_row' r1 g hg).1
/-- an append to nothing -/
theorem run_append_none {w : World} {x : Value} {m : Tx} (hx : Bv w x m) (ty : TypeId) :
    ∃ v' w', (Builtin.append_ #[22, 22] ty #[.slice none 0 0, x]).run Tryz.prog w = .ok v' w' ∧ OwnB w.heap.size w' v' m ∧ Le w w' := by
  have hl : m.length ≤ 140737488355328 := by obtain ⟨_, _, _, _, _, h⟩ := hx; exact h.1
  obtain ⟨v', w', q, k1, k2⟩ := run_append_bv (OwnB.nil w.heap.size w) hx (by simpa using hl) (Nat.le_refl _) ty
  exact ⟨v', w', q, k1, Below.grown' (Le.refl w) k2 (Nat.le_refl _) (fun g hg => by cases hg)⟩
/-- the blocks differ -/
def Ap (x y : Value) : Prop := ∀ g, x.ownBlock = some g → y.ownBlock ≠ some g
def Lt (w : World) (x : Value) : Prop := ∀ g, x.ownBlock = some g → g < w.heap.size
def Fr (w : World) (x : Value) : Prop := ∀ g, x.ownBlock = some g → w.heap.size ≤ g
theorem Lt.le {w w' : World} {x : Value} (h : Lt w x) (k : Le w w') : Lt w' x := fun g hg => Nat.lt_of_lt_of_le (h g hg) k.size
theorem Lt.gr {w w' : World} {x : Value} {r : Option Nat} (h : Lt w x) (k : w.grownBy w' r) : Lt w' x := fun g hg => Nat.lt_of_lt_of_le (h g hg) k.size
theorem OwnB.frz {base : Nat} {w : World} {v : Value} {l : Tx} (h : OwnB base w v l) : Lt w v := h.lt
theorem Ap.fr {w : World} {x y : Value} (hx : Lt w x) (hy : Fr w y) : Ap x y := fun g hg he => by have := hx g hg; have := hy g he; omega
theorem Ap.symm {x y : Value} (h : Ap x y) : Ap y x := fun g hg he => h g he hg
theorem Ap.und (x : Value) : Ap x undef := fun g _ he => by cases he
theorem Ap.undl (x : Value) : Ap undef x := fun g he => by cases he
theorem Lt.und (w : World) : Lt w undef := fun g he => by cases he
theorem Ap.step {w : World} {x v y : Value} (h : Ap x y) (hs : v.ownBlock = x.ownBlock ∨ Fr w v) (hy : Lt w y) : Ap v y := by
  rcases hs with hs | hs
  · intro g hg; rw [hs] at hg; exact h g hg
  · exact (Ap.fr hy hs).symm
theorem OwnB.fr {w w' : World} {v : Value} {l : Tx} (h : OwnB w.heap.size w' v l) : Fr w v := fun g hg => (own_row' h g hg).1
theorem OwnB.base {base base' : Nat} {w : World} {v : Value} {l : Tx} (h : OwnB base w v l) (k : base' ≤ base) : OwnB base' w v l := World.ownsRow.mono h (base' := base') k
/-- a row that another one's append leaves as it is -/
theorem OwnB.apart {base : Nat} {w w' : World} {x v : Value} {l : Tx} (h : OwnB base w v l) (k : w.grownBy w' x.ownBlock) (ha : Ap x v) : OwnB base w' v l := by
  refine World.ownsRow.kept h k ?_
  cases hv : v.ownBlock with
  | none => exact .inl rfl
  | some g => exact .inr (fun e => ha g e.symm hv)
/-- a row whose beginning another one holds -/
theorem OwnB.pre {base : Nat} {w w' : World} {x v : Value} {l l0 : Tx} (hx : OwnB base w x l0) (hv : OwnB base w v (l0 ++ l)) (k : w.grownBy w' v.ownBlock) (hv' : OwnB base w' v (l0 ++ l)) : OwnB base w' x l0 := by
  by_cases hb : x.ownBlock = v.ownBlock
  · rcases hx.2 with ⟨rfl, h5⟩ | ⟨g, cap, cur, rfl, b1, b2, b3, b4, b5, b6⟩
    · obtain rfl : l0 = [] := List.eq_nil_of_length_eq_zero h5
      exact OwnB.nil _ _
    · rcases hv.2 with ⟨rfl, _⟩ | ⟨g', cap', cur', rfl, _, c2, _, _, c5, _⟩
      · simp [Value.ownBlock] at hb
      · simp only [Value.ownBlock, Option.some.injEq] at hb
        subst hb
        rw [b2] at c2
        injection c2 with c2
        injection c2 with c2 _ _
        subst c2
        rcases hv'.2 with ⟨e, _⟩ | ⟨g2, cap2, cur2, e, _, d2, _, _, d5, d6⟩
        · cases e
        · injection e with e1 e2 e3
          injection e1 with e1
          injection e1 with e1 _ _
          subst e1
          subst e3
          refine ⟨hx.1, .inr ⟨g, cap, cur2, rfl, b1, d2, b3, b4, by omega, ?_⟩⟩
          have := congrArg (List.take (l0.length * 1)) d6
          rw [List.take_take, Nat.min_eq_left (by rw [List.length_append]; omega)] at this
          rw [this]
          unfold u8s
          rw [List.map_append]
          have e2 : (l0.map fun c => Value.int .u8 (c.toNat : Int)).length = l0.length * 1 := by simp
          rw [← e2]
          exact List.take_left
  · refine World.ownsRow.kept hx k ?_
    cases hx0 : x.ownBlock with
    | none => exact .inl rfl
    | some g => exact .inr (fun e => hb (by rw [hx0, e]))

/-! ### the steps of G4's rule -/
section
variable {P : Program} {Q : Exit → Act → World → Prop} {n : Nat} {S : Nat → Value → World → Prop} {G : Act → World → Prop} {i : Nat} {o : Oper} {a0 : Act}
theorem G4.det (h : ∀ (a : Act) (w : World), G a w → (∀ t, Operand.tmp t ∈ o.op.operands → S t (a.eval (.tmp t)) w) → ∃ v, (execOp a.eval o).run P w = .ok (.value v) w ∧ SAt S G4.TT i o.dst v w)
    (hp : ∀ a w v, G a w → G (a.put o.dst v) w) : G4.GrowStep P n a0 S G Q i o := by
  intro a w hz hu hg hop
  obtain ⟨v, hr, hv⟩ := h a w hg hop
  unfold Oper.wp
  rw [hr]
  exact ⟨v, rfl, hp _ _ _ hg, fun _ _ hs => hs, hv⟩
theorem G4.run (h : ∀ (a : Act) (w : World), a.tmps.size = n → (∀ t, o.dst = some t → a.eval (.tmp t) = a0.eval (.tmp t)) → G a w → (∀ t, Operand.tmp t ∈ o.op.operands → S t (a.eval (.tmp t)) w) → ∃ v w', (execOp a.eval o).run P w = .ok (.value v) w' ∧ G (a.put o.dst v) w' ∧
      (∀ t, o.dst ≠ some t → S t (a.eval (.tmp t)) w → S t (a.eval (.tmp t)) w') ∧ SAt S G4.TT i o.dst v w') : G4.GrowStep P n a0 S G Q i o := by
  intro a w hz hu hg hop
  obtain ⟨v, w', hr, h1, h2, h3⟩ := h a w hz hu hg hop
  unfold Oper.wp
  rw [hr]
  exact ⟨v, rfl, h1, h2, h3⟩
theorem G4.call (h : ∀ (a : Act) (w : World), a.tmps.size = n → (∀ t, o.dst = some t → a.eval (.tmp t) = a0.eval (.tmp t)) → G a w → (∀ t, Operand.tmp t ∈ o.op.operands → S t (a.eval (.tmp t)) w) → ∃ f args, (execOp a.eval o).run P w = .ok (.enter f args) w ∧
      Calls P f args w fun e w' => ∃ v, e = .returned v ∧ G (a.put o.dst v) w' ∧ (∀ t, o.dst ≠ some t → S t (a.eval (.tmp t)) w → S t (a.eval (.tmp t)) w') ∧ SAt S G4.TT i o.dst v w') : G4.GrowStep P n a0 S G Q i o := by
  intro a w hz hu hg hop
  obtain ⟨f, args, hr, hc⟩ := h a w hz hu hg hop
  unfold Oper.wp
  rw [hr, Oper.upon_enter]
  refine hc.mono ?_
  rintro e w' ⟨v, rfl, h1, h2, h3⟩
  exact ⟨v, rfl, h1, h2, h3⟩
theorem G4.append (s x : Operand) (t : TypeId) (hop : o.op = Op.call { callee := Callee.builtin Builtin.append, args := #[s, x], argTypes := #[t, t] })
    (h : ∀ (a : Act) (w : World), a.tmps.size = n → (∀ t, o.dst = some t → a.eval (.tmp t) = a0.eval (.tmp t)) → G a w → (∀ t, Operand.tmp t ∈ o.op.operands → S t (a.eval (.tmp t)) w) → ∃ v w', (Builtin.append_ #[t, t] o.type #[a.eval s, a.eval x]).run P w = .ok v w' ∧ G (a.put o.dst v) w' ∧
      (∀ t, o.dst ≠ some t → S t (a.eval (.tmp t)) w → S t (a.eval (.tmp t)) w') ∧ SAt S G4.TT i o.dst v w') : G4.GrowStep P n a0 S G Q i o := by
  intro a w hz hu hg hop'
  obtain ⟨v, w', hr, h1, h2, h3⟩ := h a w hz hu hg hop'
  unfold Oper.wp
  simp [execOp, hop, resolve, invoke, builtin, hr, Result.andThen]
  exact ⟨v, rfl, h1, h2, h3⟩
end
/-- two rows x, y (y out of x), two others z, t -/
structure A3 (W0 : World) (x y z t : Value) (w : World) : Prop where
  le : Le W0 w
  lx : Lt w x
  ly : Lt w y
  lz : Lt w z
  lt : Lt w t
  xz : Ap x z
  xt : Ap x t
  yt : Ap y t
theorem A3.to {W0 w w' : World} {x y z t : Value} (h : A3 W0 x y z t w) (k : Le w w') : A3 W0 x y z t w' := ⟨h.le.trans k, h.lx.le k, h.ly.le k, h.lz.le k, h.lt.le k, h.xz, h.xt, h.yt⟩
theorem A3.setx {W0 w w' : World} {x y z t v : Value} (h : A3 W0 x y z t w) (k : Le w w') (hf : Fr w v) (hl : Lt w' v) : A3 W0 v y z t w' := ⟨h.le.trans k, hl, h.ly.le k, h.lz.le k, h.lt.le k, (Ap.fr h.lz hf).symm, (Ap.fr h.lt hf).symm, h.yt⟩
theorem A3.setz {W0 w w' : World} {x y z t v : Value} (h : A3 W0 x y z t w) (k : Le w w') (hf : Fr w v) (hl : Lt w' v) : A3 W0 x y v t w' := ⟨h.le.trans k, h.lx.le k, h.ly.le k, hl, h.lt.le k, Ap.fr h.lx hf, h.xt, h.yt⟩
theorem A3.sett {W0 w w' : World} {x y z t v : Value} (h : A3 W0 x y z t w) (k : Le w w') (hf : Fr w v) (hl : Lt w' v) : A3 W0 x y z v w' := ⟨h.le.trans k, h.lx.le k, h.ly.le k, h.lz.le k, hl, h.xz, Ap.fr h.lx hf, Ap.fr h.ly hf⟩
theorem A3.sety {W0 w w' : World} {x y z t v : Value} (h : A3 W0 x y z t w) (kl : Le W0 w') (k : w.grownBy w' x.ownBlock) (hs : v.ownBlock = x.ownBlock ∨ Fr w v) (hl : Lt w' v) : A3 W0 x v z t w' :=
  ⟨kl, h.lx.gr k, hl, h.lz.gr k, h.lt.gr k, h.xz, h.xt, Ap.step h.xt hs h.lt⟩
def A3G (W0 : World) (ix iy iz it : Nat) (a : Act) (w : World) : Prop := A3 W0 (a.eval (.tmp ix)) (a.eval (.tmp iy)) (a.eval (.tmp iz)) (a.eval (.tmp it)) w
theorem A3G.put {W0 : World} {ix iy iz it d : Nat} {a : Act} {w : World} {v : Value} (h : A3G W0 ix iy iz it a w) (h1 : d ≠ ix) (h2 : d ≠ iy) (h3 : d ≠ iz) (h4 : d ≠ it) : A3G W0 ix iy iz it (a.put (some d) v) w := by
  unfold A3G at h ⊢
  rw [eval_put_ne v (by simpa using h1), eval_put_ne v (by simpa using h2), eval_put_ne v (by simpa using h3), eval_put_ne v (by simpa using h4)]
  exact h

/-! ### a conversion of bytes to bytes: the mark alone turns -/
theorem conv_frz {P : Program} (w : World) (t e : TypeId) (C : Array Value) (fz : Nat × Nat) (g n c : Nat) (h : w.heap[g]? = some (.cells C e fz)) (ht : P.underlying t = some (.slice e)) (he : P.underlying e = some (.int .u8)) :
    (convert t t (.slice (some ⟨g, 0, none⟩) n c)).run P w = .ok (.slice (some ⟨g, 0, none⟩) n c) (w.freeze ⟨g, C.size, none⟩ 1) := by
  have hsh : w.shape? g = some (e, C.size) := by
    unfold World.shape?
    rw [h]
  simp [convert, run_underlying ht, run_underlying he, markStringish, hsh]
theorem frz_heap (w : World) (g k n j : Nat) (h : j ≠ g) : (w.freeze ⟨g, k, none⟩ n).heap[j]? = w.heap[j]? := by
  unfold World.freeze
  split
  · rfl
  · simp [Array.getElem?_modify, Ne.symm h]
theorem frz_size (w : World) (a : Addr) (n : Nat) : (w.freeze a n).heap.size = w.heap.size := by
  unfold World.freeze
  split <;> simp
theorem frz_gr (w : World) (g k n : Nat) : w.grownBy (w.freeze ⟨g, k, none⟩ n) (some g) := by
  refine ⟨?_, ?_, ?_, by rw [frz_size]; exact Nat.le_refl _, fun j _ hj => frz_heap w g k n j (fun e => hj (by rw [e]))⟩ <;>
  · unfold World.freeze; split <;> rfl
theorem frz_self {w : World} {g : Nat} {C : Array Value} {e : TypeId} {fz : Nat × Nat} (h : w.heap[g]? = some (.cells C e fz)) (k n : Nat) : ∃ fz', (w.freeze ⟨g, k, none⟩ n).heap[g]? = some (.cells C e fz') := by
  unfold World.freeze
  split
  · exact ⟨fz, h⟩
  · obtain ⟨lo, hi⟩ := fz
    simp only [Array.getElem?_modify, if_true, h, Option.map_some]
    exact ⟨_, rfl⟩
theorem frz_cell (w : World) (g k n : Nat) {C : Array Value} {e : TypeId} {fz : Nat × Nat} (h : w.heap[g]? = some (.cells C e fz)) (b : Addr) : (w.freeze ⟨g, k, none⟩ n).cell? b = w.cell? b := by
  by_cases hb : b.block = g
  · obtain ⟨fz', h'⟩ := frz_self h k n
    unfold World.cell?
    rw [hb, h, h']
  · unfold World.cell?
    rw [frz_heap w g k n b.block hb]
theorem Bv.cells {w w' : World} {v : Value} {l : Tx} (h : Bv w v l) (k : ∀ b, w'.cell? b = w.cell? b) : Bv w' v l := by
  obtain ⟨A, c, e, h1, h2, h3, h4⟩ := h
  refine ⟨A, c, e, h1, h2, h3, fun hp => ?_⟩
  obtain ⟨b, o, e, hc⟩ := h4 hp
  exact ⟨b, o, e, fun j hj => (k _).trans (hc j hj)⟩
theorem Bv.apart {w w' : World} {x v : Value} {l : Tx} (h : Bv w v l) (k : w.grownBy w' x.ownBlock) (ha : Ap x v) : Bv w' v l :=
  (BvN.grown (g := x.ownBlock) ⟨h, fun j hj e => ha j e.symm hj⟩ k).1
theorem Bv.frz {w : World} {v : Value} {l : Tx} (h : Bv w v l) (hl : 0 < l.length) : Lt w v := by
  obtain ⟨A, c, rfl, h1, h2, h3, h4⟩ := h
  obtain ⟨b, o, rfl, hc⟩ := h4 hl
  intro g hg
  simp only [Value.ownBlock, Option.some.injEq] at hg
  subst hg
  exact lt_of_cell (hc 0 hl)
theorem bv_heap {w : World} {g : Nat} (l : Tx) {fz : Nat × Nat} (hl : l.length ≤ 1099511627776) (h : w.heap[g]? = some (.cells (l.map fun c => Value.int .u8 (c.toNat : Int)).toArray 5 fz)) : Bv w (.slice (some ⟨g, 0, none⟩) l.length l.length) l := by
  refine ⟨_, _, rfl, Nat.le_refl _, by omega, by omega, fun _ => ⟨g, 0, rfl, fun j hj => ?_⟩⟩
  rw [Nat.zero_add, cell_cells h j]
  simp [List.getElem?_eq_getElem hj]
/-- A3; y apart from z; q is made behind y, p is nothing till q is there -/
structure A4 (W0 : World) (x y z t q p s : Value) (w : World) : Prop extends A3 W0 x y z t w where
  yz : Ap y z
  qu : y = undef → q = undef
  pq : q = undef → p = .slice none 0 0
  st : s = undef ∨ s = t
theorem A4.to' {W0 w w' : World} {x y z t q p s : Value} (h : A4 W0 x y z t q p s w) (k : Le w w') : A4 W0 x y z t q p s w' := ⟨h.toA3.to k, h.yz, h.qu, h.pq, h.st⟩
theorem A4.setx' {W0 w w' : World} {x y z t q p s v : Value} (h : A4 W0 x y z t q p s w) (k : Le w w') (hf : Fr w v) (hl : Lt w' v) : A4 W0 v y z t q p s w' := ⟨h.toA3.setx k hf hl, h.yz, h.qu, h.pq, h.st⟩
theorem A4.setz' {W0 w w' : World} {x y z t q p s v : Value} (h : A4 W0 x y z t q p s w) (k : Le w w') (hf : Fr w v) (hl : Lt w' v) : A4 W0 x y v t q p s w' := ⟨h.toA3.setz k hf hl, Ap.fr h.ly hf, h.qu, h.pq, h.st⟩
theorem A4.sett' {W0 w w' : World} {x y z t q p s v : Value} (h : A4 W0 x y z t q p s w) (k : Le w w') (hf : Fr w v) (hl : Lt w' v) (ht : t = undef) : A4 W0 x y z v q p s w' := ⟨h.toA3.sett k hf hl, h.yz, h.qu, h.pq, .inl (h.st.elim id fun e => e.trans ht)⟩
theorem A4.sety' {W0 w w' : World} {x y z t q p s v : Value} (h : A4 W0 x y z t q p s w) (kl : Le W0 w') (k : w.grownBy w' x.ownBlock) (hs : v.ownBlock = x.ownBlock ∨ Fr w v) (hl : Lt w' v) (hv : v ≠ undef) : A4 W0 x v z t q p s w' :=
  ⟨h.toA3.sety kl k hs hl, Ap.step h.xz hs h.lz, fun e => absurd e hv, h.pq, h.st⟩
theorem A4.gr' {W0 w w' : World} {x y z t q p s : Value} (h : A4 W0 x y z t q p s w) (kl : Le W0 w') (k : ∃ r, w.grownBy w' r) : A4 W0 x y z t q p s w' := by
  obtain ⟨r, k⟩ := k
  exact ⟨⟨kl, h.lx.gr k, h.ly.gr k, h.lz.gr k, h.lt.gr k, h.xz, h.xt, h.yt⟩, h.yz, h.qu, h.pq, h.st⟩
theorem A4.setq' {W0 w w' : World} {x y z t q p s v : Value} (h : A4 W0 x y z t q p s w) (kl : Le W0 w') (k : ∃ r, w.grownBy w' r) (hy : y ≠ undef) (hv : v ≠ undef) : A4 W0 x y z t v p s w' :=
  ⟨(h.gr' kl k).toA3, h.yz, fun e => absurd e hy, fun e => absurd e hv, h.st⟩
theorem A4.setp' {W0 w : World} {x y z t q p s v : Value} (h : A4 W0 x y z t q p s w) (hq : q ≠ undef) : A4 W0 x y z t q v s w := ⟨h.toA3, h.yz, h.qu, fun e => absurd e hq, h.st⟩
theorem A4.sets' {W0 w : World} {x y z t q p s : Value} (h : A4 W0 x y z t q p s w) : A4 W0 x y z t q p t w := ⟨h.toA3, h.yz, h.qu, h.pq, .inr rfl⟩
def A4G (W0 : World) (ix iy iz it iq ip is : Nat) (a : Act) (w : World) : Prop := A4 W0 (a.eval (.tmp ix)) (a.eval (.tmp iy)) (a.eval (.tmp iz)) (a.eval (.tmp it)) (a.eval (.tmp iq)) (a.eval (.tmp ip)) (a.eval (.tmp is)) w
theorem A4G.put {W0 : World} {ix iy iz it iq ip is d : Nat} {a : Act} {w : World} {v : Value} (h : A4G W0 ix iy iz it iq ip is a w) (h1 : d ≠ ix) (h2 : d ≠ iy) (h3 : d ≠ iz) (h4 : d ≠ it) (h5 : d ≠ iq) (h6 : d ≠ ip) (h7 : d ≠ is) : A4G W0 ix iy iz it iq ip is (a.put (some d) v) w := by
  unfold A4G at h ⊢
  rw [eval_put_ne v (by simpa using h1), eval_put_ne v (by simpa using h2), eval_put_ne v (by simpa using h3), eval_put_ne v (by simpa using h4), eval_put_ne v (by simpa using h5), eval_put_ne v (by simpa using h6), eval_put_ne v (by simpa using h7)]
  exact h
theorem Bv.ne_undef {w : World} {v : Value} {l : Tx} (h : Bv w v l) : v ≠ undef := by
  obtain ⟨A, c, rfl, _⟩ := h
  intro e; cases e
theorem Bv.ne_nil {w : World} {v : Value} {l : Tx} (h : Bv w v l) (hl : l ≠ []) : v ≠ .slice none 0 0 := by
  obtain ⟨A, c, rfl, _⟩ := h
  intro e
  injection e with _ e _
  exact hl (List.eq_nil_of_length_eq_zero e)
theorem OwnB.ne_undef {base : Nat} {w : World} {v : Value} {l : Tx} (h : OwnB base w v l) : v ≠ undef := by
  obtain ⟨n, A, c, rfl⟩ := h.shape
  intro e; cases e
/-- the bytes of 'sips', in a block of their own -/
def SipsAt (base : Nat) (w : World) (v : Value) : Prop := ∃ g fz, v = .slice (some ⟨g, 0, none⟩) 4 4 ∧ base ≤ g ∧ w.heap[g]? = some (.cells #[.int .u8 115, .int .u8 105, .int .u8 112, .int .u8 115] 5 fz)
theorem SipsAt.le {base : Nat} {w w' : World} {v : Value} (h : SipsAt base w v) (k : Le w w') : SipsAt base w' v := by
  obtain ⟨g, fz, e, h1, h2⟩ := h
  exact ⟨g, fz, e, h1, k.heap h2⟩
theorem SipsAt.apart {base : Nat} {w w' : World} {x v : Value} (h : SipsAt base w v) (k : w.grownBy w' x.ownBlock) (ha : Ap x v) : SipsAt base w' v := by
  obtain ⟨g, fz, rfl, h1, h2⟩ := h
  refine ⟨g, fz, rfl, h1, (k.block g (lt_of_heap h2) ?_).trans h2⟩
  intro e
  exact ha g e.symm rfl
theorem SipsAt.bv {base : Nat} {w : World} {v : Value} (h : SipsAt base w v) : Bv w v sSips := by
  obtain ⟨g, fz, rfl, h1, h2⟩ := h
  exact bv_heap sSips (by decide) h2
theorem SipsAt.frz {base : Nat} {w : World} {v : Value} {g : Nat} {C : Array Value} {e : TypeId} {fz : Nat × Nat} (h : SipsAt base w v) (hg : w.heap[g]? = some (.cells C e fz)) (k n : Nat) : SipsAt base (w.freeze ⟨g, k, none⟩ n) v := by
  obtain ⟨g', fz', rfl, h1, h2⟩ := h
  by_cases hk : g' = g
  · subst hk
    obtain ⟨f2, h3⟩ := frz_self h2 k n
    exact ⟨g', f2, rfl, h1, h3⟩
  · exact ⟨g', fz', rfl, h1, (frz_heap w g k n g' hk).trans h2⟩
theorem SipsAt.st {base : Nat} {w w' : World} {x t s : Value} (h : SipsAt base w s) (hs : s = undef ∨ s = t) (k : w.grownBy w' x.ownBlock) (ha : Ap x t) : SipsAt base w' s := by
  rcases hs with rfl | rfl
  · obtain ⟨g, fz, e, _⟩ := h
    cases e
  · exact h.apart k ha
end Go.Proofs.YteedhaenbamiaaaGreatDoor
