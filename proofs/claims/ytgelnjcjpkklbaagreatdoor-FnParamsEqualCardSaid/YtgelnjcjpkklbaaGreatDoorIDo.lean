/- Contract: the thin package's ParamsDo. -/
import Derived.Test.YtgelnjcjpkklbaaGreatDoorDel
import Derived.Test.YtgelnjcjpkklbaaGreatDoorHead
import Derived.Test.YtgelnjcjpkklbaaGreatDoorLw
set_option linter.unusedVariables false
set_option linter.unusedSimpArgs false
namespace Go.Proofs.YtgelnjcjpkklbaaGreatDoor
open Go.RowKit

abbrev Act3 := Int × Tx × Tx
/-- a list behind an act, and what the act tells -/
def actK (l : KVs) (d : Act3) : KVs × (Tx × Tx) :=
  if d.1 = 0 then (addKV l d.2.1 d.2.2, ([], []))
  else if d.1 = 1 then (rmK l d.2.1, ([], []))
  else if d.1 = 2 then (l, (isT (fnd l d.2.1).isSome, (fnd l d.2.1).getD []))
  else if d.1 = 3 then (l, ([], (fnd l d.2.1).getD d.2.2))
  else if d.1 = 4 then (l, (isT (fnd l d.2.1).isSome, []))
  else (l, ([], []))
def actsK (l : KVs) (ds : List Act3) : KVs × KVs := ds.foldl (fun s d => ((actK s.1 d).1, s.2 ++ [(actK s.1 d).2])) (l, [])
theorem actsK_snoc (l : KVs) (ds : List Act3) (d : Act3) : actsK l (ds ++ [d]) = ((actK (actsK l ds).1 d).1, (actsK l ds).2 ++ [(actK (actsK l ds).1 d).2]) := by
  unfold actsK; rw [List.foldl_append]; rfl
theorem actsK_len (l : KVs) (ds : List Act3) : ∀ k, k ≤ ds.length → (actsK l (ds.take k)).2.length = k := by
  intro k
  induction k with
  | zero => intro _; rfl
  | succ k ih => intro h; rw [List.take_succ_eq_append_getElem (by omega), actsK_snoc, List.length_append, ih (by omega)]; rfl
/-- the acts in memory -/
def Dw (w : World) (v : Value) (ds : List Act3) : Prop :=
  ∃ A c, v = .slice A ds.length c ∧ ds.length ≤ c ∧ c ≤ 9223372036854775807 ∧ ds.length ≤ 140737488355328 ∧
    (0 < ds.length → ∃ g o, A = some ⟨g, o, none⟩ ∧
      ∀ j (h : j < ds.length), ∃ x y, w.cell? ⟨g, o + j * 3, none⟩ = some (.int .i64 ds[j].1) ∧ w.cell? ⟨g, o + j * 3 + 1, none⟩ = some x ∧ w.cell? ⟨g, o + j * 3 + 2, none⟩ = some y ∧ Bv w x ds[j].2.1 ∧ Bv w y ds[j].2.2)
theorem Dw.le {w w' : World} {v : Value} {ds : List Act3} (h : Dw w v ds) (k : Le w w') : Dw w' v ds := by
  obtain ⟨A, c, e, h1, h2, h3, h4⟩ := h
  refine ⟨A, c, e, h1, h2, h3, fun hn => ?_⟩
  obtain ⟨g, o, e, hc⟩ := h4 hn
  refine ⟨g, o, e, fun j hj => ?_⟩
  obtain ⟨x, y, a0, a1, a2, a3, a4⟩ := hc j hj
  exact ⟨x, y, k.cell a0, k.cell a1, k.cell a2, a3.le k, a4.le k⟩
theorem Dw.form {w : World} {v : Value} {ds : List Act3} (h : Dw w v ds) : ∃ A c, v = .slice A ds.length c := by obtain ⟨A, c, e, _⟩ := h; exact ⟨A, c, e⟩
theorem Dw.at_ {w : World} {A : Option Addr} {n c : Nat} {ds : List Act3} (h : Dw w (.slice A n c) ds) {k : Nat} (hk : k < ds.length) :
    ∃ g o, A = some ⟨g, o, none⟩ ∧ ∃ x y, w.cell? ⟨g, o + k * 3, none⟩ = some (.int .i64 ds[k].1) ∧ w.cell? ⟨g, o + k * 3 + 1, none⟩ = some x ∧ w.cell? ⟨g, o + k * 3 + 2, none⟩ = some y ∧ Hid (Bv w x ds[k].2.1) ∧ Hid (Bv w y ds[k].2.2) := by
  obtain ⟨A', c', e, _, _, _, h4⟩ := h
  injection e with e1 e2 e3
  subst e1
  obtain ⟨g, o, e, hc⟩ := h4 (by omega)
  obtain ⟨x, y, a0, a1, a2, a3, a4⟩ := hc k hk
  exact ⟨g, o, e, x, y, a0, a1, a2, Lib.hid a3, Lib.hid a4⟩
theorem rmK_sm {N : Nat} {l : KVs} (h : KSm N l) (k : Tx) : KSm N (rmK l k) := ⟨Nat.le_trans (List.length_filter_le _ _) h.1, fun x hx => h.2 x (List.mem_filter.1 hx).1⟩
theorem fnd_sm {N : Nat} {l : KVs} (h : KSm N l) (k : Tx) (df : Tx) (hd : df.length ≤ 1099511627776) : ((fnd l k).getD df).length ≤ 1099511627776 := by
  unfold fnd
  cases hf : l.find? (fun x => decide (x.1 = k)) with
  | none => exact hd
  | some x => exact (h.2 x (List.mem_of_find?_eq_some hf)).2
theorem actK_sm {N : Nat} {l : KVs} (h : KSm N l) (d : Act3) (h1 : d.2.1.length ≤ 1099511627776) (h2 : d.2.2.length ≤ 1099511627776) : KSm (N + 1) (actK l d).1 := by
  unfold actK
  split
  · exact h.add h1 h2
  · split
    · exact (rmK_sm h _).mono (Nat.le_succ _)
    · split
      · exact h.mono (Nat.le_succ _)
      · split
        · exact h.mono (Nat.le_succ _)
        · split <;> exact h.mono (Nat.le_succ _)
/-- other blocks than b and the rows of parameters stand -/
theorem own_oth {w w' : World} {base b : Nat} {T : TypeId} {n size : Nat} {v : Value} {xs : List Value} (h : w.ownsRow base T size v n xs) (k : PFr base b w w') (hT : T ≠ 142) {cs : Array Value} {Tb : TypeId} {fz : Nat × Nat} (hb : w.heap[b]? = some (.cells cs Tb fz)) (hTb : Tb ≠ T) : w'.ownsRow base T size v n xs := by
  refine ⟨h.1, ?_⟩
  rcases h.2 with hn | ⟨g, cap, cur, rfl, hbg, hg, rest⟩
  · exact .inl hn
  · refine .inr ⟨g, cap, cur, rfl, hbg, ?_, rest⟩
    refine k.oth g _ hg (fun e => ?_) (fun c f e => ?_)
    · injection e with e
      subst e
      rw [hg] at hb
      injection hb with hb
      injection hb with _ h2
      exact hTb h2.symm
    · injection e with _ e; exact hT e
theorem pfr_bytes {w w' : World} {base b : Nat} (k : PFr base b w w') {cs : Array Value} {Tb : TypeId} {fz : Nat × Nat} (hb : w.heap[b]? = some (.cells cs Tb fz)) (hTb : Tb ≠ 5) : ∀ (g : Nat) (cur : Array Value) (fz : Nat × Nat), w.heap[g]? = some (.cells cur 5 fz) → w'.heap[g]? = w.heap[g]? := by
  intro g cur fz' hg
  rw [hg]
  refine k.oth g _ hg (fun e => ?_) (fun c f e => ?_)
  · injection e with e
    subst e
    rw [hg] at hb
    injection hb with hb
    injection hb with _ h2
    exact hTb h2.symm
  · injection e with _ e; exact absurd e (by decide)
theorem PFr.below {base b : Nat} {w w' : World} (h : PFr base b w w') (hb : base ≤ b) : Below base w w' := ⟨h.os, h.tape, h.output, h.size, fun k hk => h.low k hk (by omega)⟩
/-- the list in the box, written out -/
theorem PAx.hp {w : World} {base b : Nat} {T : TypeId} {l : KVs} (h : PAx w base b 0 T #[.slice none 0 0] l) (hs : KSm 1099511627776 l) : ∃ v, w.heap[b]? = some (.cells #[v] T (0, 0)) ∧ Hp w v l ∧ w.ownsRow base 142 2 v l.length (kvCells l) := by
  obtain ⟨v0, x, hx, hb, hown⟩ := h
  have e : (#[Value.slice none 0 0] : Array Value).setIfInBounds 0 v0 = #[v0] := rfl
  rw [e] at hx hb
  obtain rfl : v0 = x := Option.some.inj hx
  exact ⟨v0, hb, Hp.of_own hown hs.1 hs.2, hown⟩
/-- what a round of it holds -/
structure DoR (w : World) (pb : Nat) (l : KVs) (ts : KVs) (sv : Value) (wr : World) : Prop where
  le : Le w wr
  pa : PAx wr w.heap.size pb 0 91 #[.slice none 0 0] l
  own : ∃ xs, wr.ownsRow w.heap.size 39 2 sv ts.length xs ∧ KCells w.heap.size wr xs ts
theorem DoR.grow {w : World} {pb : Nat} {l ts : KVs} {sv : Value} {wr w' : World} (h : DoR w pb l ts sv wr) (k : Le wr w') : DoR w pb l ts sv w' := by
  obtain ⟨h1, h2, xs, h3, h4⟩ := h
  exact ⟨h1.trans k, h2.le k, xs, own_le h3 k, h4.keep fun g _ _ hg => k.block g (lt_of_heap hg)⟩
theorem DoR.pfr {w : World} {pb : Nat} {l l' ts : KVs} {sv : Value} {wr w' : World} (h : DoR w pb l ts sv wr) (hpb : w.heap.size ≤ pb) (k : PFr w.heap.size pb wr w') (hp : PAx w' w.heap.size pb 0 91 #[.slice none 0 0] l') : DoR w pb l' ts sv w' := by
  obtain ⟨h1, h2, xs, h3, h4⟩ := h
  obtain ⟨v0, x, hx, hb, _⟩ := h2
  exact ⟨Below.trans h1 (k.below hpb), hp, xs, own_oth h3 k (by decide) hb (by decide), h4.keep (pfr_bytes k hb (by decide))⟩
theorem DoR.blk {w : World} {pb : Nat} {l ts : KVs} {sv : Value} {wr w' : World} (h : DoR w pb l ts sv wr) (k : PFr w.heap.size pb wr w') {g : Nat} {cs : Array Value} {T : TypeId} {fz : Nat × Nat} (hg : wr.heap[g]? = some (.cells cs T fz)) (hT : T ≠ 142) (hT2 : T ≠ 91) : w'.heap[g]? = some (.cells cs T fz) := by
  obtain ⟨h1, h2, _⟩ := h
  obtain ⟨v0, x, hx, hb, _⟩ := h2
  refine k.oth g _ hg (fun e => ?_) (fun c f e => ?_)
  · injection e with e
    subst e
    rw [hg] at hb
    injection hb with hb
    injection hb with _ h2
    exact hT2 h2
  · injection e with _ e; exact hT e
theorem DoR.bytes {w : World} {pb : Nat} {l ts : KVs} {sv : Value} {wr w' : World} (h : DoR w pb l ts sv wr) (k : PFr w.heap.size pb wr w') : ∀ (g : Nat) (cur : Array Value) (fz : Nat × Nat), wr.heap[g]? = some (.cells cur 5 fz) → w'.heap[g]? = wr.heap[g]? := by
  obtain ⟨h1, h2, _⟩ := h
  obtain ⟨v0, x, hx, hb, _⟩ := h2
  exact pfr_bytes k hb (by decide)
set_option maxRecDepth 8000 in
theorem iIs_t (w : World) (b : Bool) :
    Calls Tryz.prog 79 #[.bool b] w fun e w' => ∃ v, e = .returned v ∧ Bt w.heap.size w' v (isT b) ∧ Le w w' := by
  have kc := fun (w : World) (C : Array Value) (n c : Nat) => Lib.run_convert_bytes_const (P := Tryz.prog) w 22 5 C n c Tryz.underlying22 Tryz.underlying5
  cases b
  case false =>
    go_enter Tryz.func79, Tryz.ntmps79
    go_wp2
    go_ret
    exact ⟨_, rfl, ⟨Bv.nil w, fun g h => by cases h⟩, Le.refl w⟩
  case true =>
    go_enter Tryz.func79, Tryz.ntmps79
    go_wp2
    go_ret
    refine ⟨_, rfl, ⟨bv_lit w [49] (by decide) (1, 2), ?_⟩, (Le.refl w).alloc _⟩
    intro g hg
    have hg' : some w.heap.size = some g := hg
    injection hg' with hg'
    subst hg'
    exact ⟨Nat.le_refl _, _, _, heap_alloc_new w _⟩
def IDoPost (l : KVs) (ds : List Act3) (w : World) (e : Ending) (w' : World) : Prop :=
  ∃ v1 v2, e = .returned (.tuple #[v1, v2]) ∧ Kq (w.heap.size ≤ ·) w' v1 (actsK l ds).1 ∧ Kq (w.heap.size ≤ ·) w' v2 (actsK l ds).2 ∧ Le w w'
theorem setx_bytes {W : World} {xb : Nat} {cs : Array Value} {T : TypeId} {fz : Nat × Nat} (hx : W.heap[xb]? = some (.cells cs T fz)) (hT : T ≠ 5) (j : Nat) (x : Value) : ∀ (g : Nat) (cur : Array Value) (fz : Nat × Nat), W.heap[g]? = some (.cells cur 5 fz) → (W.setCell ⟨xb, j, none⟩ x).heap[g]? = W.heap[g]? := by
  intro g cur fz' hg
  refine Below.heap_setCell _ _ _ _ ?_
  intro e
  subst e
  rw [hg] at hx
  injection hx with hx
  injection hx with _ h2
  exact hT h2.symm
theorem DoR.setx {w : World} {pb xb : Nat} {l ts : KVs} {sv : Value} {W : World} (h : DoR w pb l ts sv W) {cs : Array Value} (hx : W.heap[xb]? = some (.cells cs 39 (0, 0))) (hxb : w.heap.size ≤ xb) (hne : sv.ownBlock ≠ some xb) (j : Nat) (x : Value) : DoR w pb l ts sv (W.setCell ⟨xb, j, none⟩ x) := by
  obtain ⟨h1, ⟨v0, h2⟩, xs, h3, h4⟩ := h
  have hpx : some xb ≠ some pb := by
    intro e
    injection e with e
    subst e
    obtain ⟨_, _, hb, _⟩ := h2
    rw [hx] at hb
    injection hb with hb
    injection hb with _ hb
    exact absurd hb (by decide)
  refine ⟨Below.setCell h1 hxb _, ⟨v0, h2.kept (kp_set W xb j x) hpx (fun g c fz e hg => ?_)⟩, xs, h3.kept (kp_set W xb j x) (.inr hne), h4.keep (setx_bytes hx (by decide) j x)⟩
  injection e with e
  subst e
  rw [hx] at hg
  injection hg with hg
  injection hg with _ hg
  exact absurd hg (by decide)
/-- behind the act: the box, and what is told, in block xb -/
def DoX (w : World) (pb xb : Nat) (l ts : KVs) (sv : Value) (d : Act3) (W : World) : Prop :=
  DoR w pb (actK l d).1 ts sv W ∧ ∃ kx vx, W.heap[xb]? = some (.cells #[kx, vx] 39 (0, 0)) ∧ Bt w.heap.size W kx (actK l d).2.1 ∧ Bt w.heap.size W vx (actK l d).2.2
theorem Bt.mono {base base' : Nat} {w : World} {v : Value} {l : Tx} (h : Bt base w v l) (k : base' ≤ base) : Bt base' w v l := ⟨h.1, fun g hg => ⟨Nat.le_trans k (h.2 g hg).1, (h.2 g hg).2⟩⟩
theorem Bt.nil (base : Nat) (w : World) : Bt base w (.slice none 0 0) [] := ⟨Bv.nil w, fun g h => by cases h⟩
set_option maxRecDepth 100000 in
set_option maxHeartbeats 8000000 in
theorem iDo_c (φ : Nat → Prop) (w : World) (v dv : Value) (l : KVs) (ds : List Act3) (hv : Kq φ w v l) (hd : Dw w dv ds) (hl : KSm 1099511000000 l) (hds : ds.length ≤ 100000) (hsm : ∀ d ∈ ds, d.2.1.length ≤ 1099511627776 ∧ d.2.2.length ≤ 1099511627776) :
    Calls Tryz.prog 36 #[v, dv] w (IDoPost l ds w) := by
  have HD := Lib.hid hd
  have HLS := Lib.hid hl
  have HSM := Lib.hid hsm
  obtain ⟨Ad, cd, rfl⟩ := hd.form
  have hdc : ds.length ≤ cd := by obtain ⟨A, c, e, h, _⟩ := hd; injection e with _ _ e3; omega
  clear hd hl hsm hdc
  go_enter Tryz.func36, Tryz.ntmps36
  go_wp2_with fail
  refine (ikv_c φ w _ l hv (fun x hx => HLS.out.2 x hx) (by have := HLS.out.1; omega)).mono ?_
  rintro e w1 ⟨pv, rfl, hp1, hown1, hle1⟩
  obtain ⟨np, Ap, cp, rfl⟩ : ∃ n A c, pv = .slice A n c := by obtain ⟨A, c, e, _⟩ := hp1; exact ⟨_, A, c, e⟩
  have hR : DoR w w1.heap.size l [] (.slice none 0 0) (w1.alloc (Obj.cells #[.slice Ap np cp] 91)) :=
    ⟨hle1.alloc _, ⟨.slice Ap np cp, .slice Ap np cp, rfl, heap_alloc_new w1 _, own_le hown1 ((Le.refl w1).alloc _)⟩, [], World.ownsRow_nil _ _ _ _, fun j hj => by simp at hj⟩
  have HR := Lib.hid hR
  have HPB : Hid (w.heap.size ≤ w1.heap.size) := Lib.hid hle1.size
  have HWS : Hid (w1.heap.size + 1 = (w1.alloc (Obj.cells #[.slice Ap np cp] 91)).heap.size) := Lib.hid (by simp)
  clear hp1 hown1 hle1 hR
  go_wp2
  go_loopg [7, 17] (ds.length) (fun n s i wr => ∃ k : Nat, n + k = ds.length ∧ i = .int .i64 k ∧ DoR w w1.heap.size (actsK l (ds.take k)).1 (actsK l (ds.take k)).2 s wr ∧ Hid (KSm (1099511000000 + k) (actsK l (ds.take k)).1))
  case atStart => exact ⟨0, by omega, rfl, HR.out, Lib.hid (HLS.out.mono (by omega))⟩
  case round =>
    obtain ⟨k, hn, rfl, hdr, HKS⟩ := hrel
    have HDR := Lib.hid hdr
    have HN : gk + k ≤ ds.length ∧ ds.length ≤ gk + k := by omega
    clear hn hdr
    by_cases hlt : k < ds.length
    · obtain ⟨g, o, rfl, kx, vx, d0, d1, d2, X, Y⟩ := HD.out.at_ hlt
      have HT : Hid (actsK l (ds.take (k + 1)) = ((actK (actsK l (ds.take k)).1 ds[k]).1, (actsK l (ds.take k)).2 ++ [(actK (actsK l (ds.take k)).1 ds[k]).2])) := Lib.hid (by rw [List.take_succ_eq_append_getElem hlt, actsK_snoc])
      have HTN := Lib.hid (actsK_len l ds k (by omega))
      have e0 := HDR.out.le.cell d0
      have e1 := HDR.out.le.cell d1
      have e2 := HDR.out.le.cell d2
      have X1 := Lib.hid (X.out.le HDR.out.le)
      have Y1 := Lib.hid (Y.out.le HDR.out.le)
      have HDS := Lib.hid (HSM.out ds[k] (List.getElem_mem hlt))
      have HKN := Lib.hid (actK_sm HKS.out ds[k] HDS.out.1 HDS.out.2)
      obtain ⟨Ax, cx, rfl, _⟩ := bv_slice X1.out
      obtain ⟨Ay, cy, rfl, _⟩ := bv_slice Y1.out
      clear d0 d1 d2 X Y
      generalize actsK l (ds.take k) = st0 at HDR HKS HT HTN HKN
      obtain ⟨l0, ts⟩ := st0
      generalize hd3 : ds[k] = dd at *
      obtain ⟨op, K, V⟩ := dd
      dsimp only at *
      have hR0 : DoR w w1.heap.size l0 ts u7 ((wr.alloc (Obj.cells #[.int .i64 op, .slice Ax K.length cx, .slice Ay V.length cy] 58)).alloc (Obj.cells #[.slice none 0 0, .slice none 0 0] 39)) := (HDR.out.grow ((Le.refl wr).alloc _)).grow ((Le.refl _).alloc _)
      have hDB : ((wr.alloc (Obj.cells #[.int .i64 op, .slice Ax K.length cx, .slice Ay V.length cy] 58)).alloc (Obj.cells #[.slice none 0 0, .slice none 0 0] 39)).heap[wr.heap.size]? = some (.cells #[.int .i64 op, .slice Ax K.length cx, .slice Ay V.length cy] 58 (0, 0)) :=
        ((Le.refl _).alloc _).heap (heap_alloc_new wr _)
      have hXB : ((wr.alloc (Obj.cells #[.int .i64 op, .slice Ax K.length cx, .slice Ay V.length cy] 58)).alloc (Obj.cells #[.slice none 0 0, .slice none 0 0] 39)).heap[wr.heap.size + 1]? = some (.cells #[.slice none 0 0, .slice none 0 0] 39 (0, 0)) := heap_alloc2_new wr _ _
      have HR0 := Lib.hid hR0
      have HDB := Lib.hid hDB
      have HXB := Lib.hid hXB
      have HX0 := Lib.hid (X1.out.le (((Le.refl wr).alloc _).alloc _ : Le wr ((wr.alloc (Obj.cells #[.int .i64 op, .slice Ax K.length cx, .slice Ay V.length cy] 58)).alloc (Obj.cells #[.slice none 0 0, .slice none 0 0] 39))))
      have HY0 := Lib.hid (Y1.out.le (((Le.refl wr).alloc _).alloc _ : Le wr ((wr.alloc (Obj.cells #[.int .i64 op, .slice Ax K.length cx, .slice Ay V.length cy] 58)).alloc (Obj.cells #[.slice none 0 0, .slice none 0 0] 39))))
      clear hR0 hDB hXB X1 Y1
      have HWX : Hid (w.heap.size ≤ wr.heap.size + 1) := Lib.hid (Nat.le_succ_of_le HDR.out.le.size)
      have HNE : Hid (u7.ownBlock ≠ some (wr.heap.size + 1)) := Lib.hid (fun e => by
        obtain ⟨xs, ho, _⟩ := HDR.out.own
        obtain ⟨_, c, fz, hc⟩ := own_row' ho _ e
        have := lt_of_heap hc
        omega)
      go_upto_block 2 with fail
      clear e0 e1 e2
      generalize (wr.alloc (Obj.cells #[.int .i64 op, .slice Ax K.length cx, .slice Ay V.length cy] 58)).alloc (Obj.cells #[.slice none 0 0, .slice none 0 0] 39) = W0 at HR0 HDB HXB HX0 HY0 ⊢
      have q1 := conv_bs (P := Tryz.prog) Tryz.underlying22 Tryz.underlying5 Tryz.underlying9 HX0.out
      have q2 := conv_bs (P := Tryz.prog) Tryz.underlying22 Tryz.underlying5 Tryz.underlying9 HY0.out
      have c1 : W0.cell? ⟨wr.heap.size, 1, none⟩ = some (.slice Ax K.length cx) := cell_cells HDB.out 1
      have c2 : W0.cell? ⟨wr.heap.size, 2, none⟩ = some (.slice Ay V.length cy) := cell_cells HDB.out 2
      generalize K.length = nk at c1 q1 HDB HX0 HDR
      generalize V.length = nv at c2 q2 HDB HY0 HDR
      go_cut [11, 12] from 23 to 73 (fun _ _ wc => Hid (DoX w w1.heap.size (wr.heap.size + 1) l0 ts u7 (op, K, V) wc))
      case first =>
        by_cases t0 : op = 0
        · have f0 : (op == 0) = true := by simp [t0]
          have HA : Hid (actK l0 (op, K, V) = (addKV l0 K V, ([], []))) := Lib.hid (by unfold actK; rw [if_pos t0])
          clear t0
          obtain ⟨v0, hpat⟩ := HR0.out.pa
          have HP := Lib.hid hpat
          clear hpat
          go_wp2_with fail
          refine (add_c w.heap.size w1.heap.size 0 91 _ l0 K V W0 HP.out (by decide) HR0.out.le.size (by have := HKS.out.1; omega) HKS.out.2).mono ?_
          rintro e w2 ⟨v2, rfl, hp2, hf2⟩
          rw [set_set] at hp2
          have HX2 : Hid (DoX w w1.heap.size (wr.heap.size + 1) l0 ts u7 (op, K, V) w2) := Lib.hid (by
            unfold DoX
            rw [HA.out]
            exact ⟨HR0.out.pfr HPB.out hf2 ⟨_, hp2⟩, _, _, HR0.out.blk hf2 HXB.out (by decide) (by decide), Bt.nil _ _, Bt.nil _ _⟩)
          clear hp2 hf2
          go_wp2
          go_meet
          case rel => exact HX2
        have f0 : (op == 0) = false := by simpa using t0
        by_cases t1 : op = 1
        · have f1 : (op == 1) = true := by simp [t1]
          have HA : Hid (actK l0 (op, K, V) = (rmK l0 K, ([], []))) := Lib.hid (by unfold actK; rw [if_neg t0, if_pos t1])
          clear t0 t1
          go_wp2_with fail
          refine (remove_c w.heap.size w1.heap.size 0 91 _ l0 K W0 HR0.out.pa (by decide) HR0.out.le.size (by have := HKS.out.1; omega) HKS.out.2).mono ?_
          rintro e w2 ⟨v2, rfl, hp2, hf2⟩
          have HX2 : Hid (DoX w w1.heap.size (wr.heap.size + 1) l0 ts u7 (op, K, V) w2) := Lib.hid (by
            unfold DoX
            rw [HA.out]
            exact ⟨HR0.out.pfr HPB.out hf2 ⟨_, hp2⟩, _, _, HR0.out.blk hf2 HXB.out (by decide) (by decide), Bt.nil _ _, Bt.nil _ _⟩)
          clear hp2 hf2
          go_wp2
          go_meet
          case rel => exact HX2
        have f1 : (op == 1) = false := by simpa using t1
        obtain ⟨vp, hpb, hhp, _⟩ := HR0.out.pa.hp (HKS.out.mono (by omega))
        have p0 : W0.cell? ⟨w1.heap.size, 0, none⟩ = some vp := cell_cells hpb 0
        have HHP := Lib.hid hhp
        clear hhp hpb
        by_cases t2 : op = 2
        · have f2 : (op == 2) = true := by simp [t2]
          have HA : Hid (actK l0 (op, K, V) = (l0, (isT (fnd l0 K).isSome, (fnd l0 K).getD []))) := Lib.hid (by unfold actK; rw [if_neg t0, if_neg t1, if_pos t2])
          have HFS := Lib.hid (fnd_sm HKS.out K [] (by simp))
          clear t0 t1 t2
          go_wp2_with fail
          refine (get_c W0 vp l0 K HHP.out).mono ?_
          rintro e w2 ⟨rfl, hle2⟩
          have HL2 := Lib.hid hle2
          clear hle2
          generalize (fnd l0 K).getD [] = fv at HA HFS
          generalize (fnd l0 K).isSome = fb at HA
          go_wp2_with fail
          refine (iIs_t w2 fb).mono ?_
          rintro e w3 ⟨kx, rfl, hkx, hle3⟩
          have HL3 := Lib.hid (HL2.out.trans hle3)
          have HSZ : w.heap.size ≤ w3.heap.size := Nat.le_trans HR0.out.le.size HL3.out.size
          have HKX := Lib.hid (Bt.mono hkx (Nat.le_trans HR0.out.le.size HL2.out.size))
          clear hkx hle3
          obtain ⟨B4, c4, w4, q4, le4, bt4⟩ := conv_mk (base := w.heap.size) w3 (st fv) HSZ (by rw [st_size]; have := HFS.out; omega)
          rw [bs_st] at bt4
          have HB4 := Lib.hid bt4
          have HKX4 := Lib.hid (HKX.out.le le4)
          have HL4 := Lib.hid (HL3.out.trans le4)
          have hxb := HL4.out.heap HXB.out
          obtain ⟨nx, Akx, ckx, rfl⟩ : ∃ n A c, kx = .slice A n c := by obtain ⟨A, c, e, _⟩ := HKX.out.1; exact ⟨_, A, c, e⟩
          have x0 : w4.cell? ⟨wr.heap.size + 1, 0, none⟩ = some (.slice none 0 0) := cell_cells hxb 0
          have x1 : w4.cell? ⟨wr.heap.size + 1, 1, none⟩ = some (.slice none 0 0) := cell_cells hxb 1
          have z0 : w4.frozen? ⟨wr.heap.size + 1, 0, none⟩ = false := frozen_cells hxb 0
          have z1 : w4.frozen? ⟨wr.heap.size + 1, 1, none⟩ = false := frozen_cells hxb 1
          have HX4 := Lib.hid hxb
          clear bt4 le4 hxb HSZ
          go_wp2
          go_meet
          case rel =>
            refine Lib.hid ?_
            unfold DoX
            rw [HA.out]
            have a1 := (HR0.out.grow HL4.out).setx HX4.out HWX.out HNE.out 0 (.slice Akx nx ckx)
            have b1 := heap_set HX4.out 0 (.slice Akx nx ckx)
            have a2 := a1.setx b1 HWX.out HNE.out 1 (.slice (some ⟨B4, 0, none⟩) (st fv).size c4)
            have b2 := heap_set b1 1 (.slice (some ⟨B4, 0, none⟩) (st fv).size c4)
            exact ⟨a2, _, _, b2, (HKX4.out.keep (setx_bytes HX4.out (by decide) 0 _)).keep (setx_bytes b1 (by decide) 1 _), (HB4.out.keep (setx_bytes HX4.out (by decide) 0 _)).keep (setx_bytes b1 (by decide) 1 _)⟩
        have f2 : (op == 2) = false := by simpa using t2
        by_cases t3 : op = 3
        · have f3 : (op == 3) = true := by simp [t3]
          have HA : Hid (actK l0 (op, K, V) = (l0, ([], (fnd l0 K).getD V))) := Lib.hid (by unfold actK; rw [if_neg t0, if_neg t1, if_neg t2, if_pos t3])
          have HFS := Lib.hid (fnd_sm HKS.out K V HDS.out.2)
          clear t0 t1 t2 t3
          go_wp2_with fail
          refine (getOr_c W0 vp l0 K V HHP.out).mono ?_
          rintro e w2 ⟨rfl, hle2⟩
          have HL2 := Lib.hid hle2
          clear hle2
          generalize (fnd l0 K).getD V = fv at HA HFS
          have HSZ : w.heap.size ≤ w2.heap.size := Nat.le_trans HR0.out.le.size HL2.out.size
          obtain ⟨B4, c4, w4, q4, le4, bt4⟩ := conv_mk (base := w.heap.size) w2 (st fv) HSZ (by rw [st_size]; have := HFS.out; omega)
          rw [bs_st] at bt4
          have HB4 := Lib.hid bt4
          have HL4 := Lib.hid (HL2.out.trans le4)
          have hxb := HL4.out.heap HXB.out
          have x1 : w4.cell? ⟨wr.heap.size + 1, 1, none⟩ = some (.slice none 0 0) := cell_cells hxb 1
          have z1 : w4.frozen? ⟨wr.heap.size + 1, 1, none⟩ = false := frozen_cells hxb 1
          have HX4 := Lib.hid hxb
          clear bt4 le4 hxb HSZ
          go_wp2
          go_meet
          case rel =>
            refine Lib.hid ?_
            unfold DoX
            rw [HA.out]
            have a1 := (HR0.out.grow HL4.out).setx HX4.out HWX.out HNE.out 1 (.slice (some ⟨B4, 0, none⟩) (st fv).size c4)
            have b1 := heap_set HX4.out 1 (.slice (some ⟨B4, 0, none⟩) (st fv).size c4)
            exact ⟨a1, _, _, b1, Bt.nil _ _, HB4.out.keep (setx_bytes HX4.out (by decide) 1 _)⟩
        have f3 : (op == 3) = false := by simpa using t3
        by_cases t4 : op = 4
        · have f4 : (op == 4) = true := by simp [t4]
          have HA : Hid (actK l0 (op, K, V) = (l0, (isT (fnd l0 K).isSome, []))) := Lib.hid (by unfold actK; rw [if_neg t0, if_neg t1, if_neg t2, if_neg t3, if_pos t4])
          clear t0 t1 t2 t3 t4
          go_wp2_with fail
          refine (has_c W0 vp l0 K HHP.out).mono ?_
          rintro e w2 ⟨rfl, hle2⟩
          have HL2 := Lib.hid hle2
          clear hle2
          generalize (fnd l0 K).isSome = fb at HA
          go_wp2_with fail
          refine (iIs_t w2 fb).mono ?_
          rintro e w4 ⟨kx, rfl, hkx, hle3⟩
          have HL4 := Lib.hid (HL2.out.trans hle3)
          have HKX := Lib.hid (Bt.mono hkx (Nat.le_trans HR0.out.le.size HL2.out.size))
          obtain ⟨nx, Akx, ckx, rfl⟩ : ∃ n A c, kx = .slice A n c := by obtain ⟨A, c, e, _⟩ := hkx.1; exact ⟨_, A, c, e⟩
          have hxb := HL4.out.heap HXB.out
          have x0 : w4.cell? ⟨wr.heap.size + 1, 0, none⟩ = some (.slice none 0 0) := cell_cells hxb 0
          have z0 : w4.frozen? ⟨wr.heap.size + 1, 0, none⟩ = false := frozen_cells hxb 0
          have HX4 := Lib.hid hxb
          clear hkx hle3 hxb
          go_wp2
          go_meet
          case rel =>
            refine Lib.hid ?_
            unfold DoX
            rw [HA.out]
            have a1 := (HR0.out.grow HL4.out).setx HX4.out HWX.out HNE.out 0 (.slice Akx nx ckx)
            have b1 := heap_set HX4.out 0 (.slice Akx nx ckx)
            exact ⟨a1, _, _, b1, HKX.out.keep (setx_bytes HX4.out (by decide) 0 _), Bt.nil _ _⟩
        have f4 : (op == 4) = false := by simpa using t4
        have HA : Hid (actK l0 (op, K, V) = (l0, ([], []))) := Lib.hid (by unfold actK; rw [if_neg t0, if_neg t1, if_neg t2, if_neg t3, if_neg t4])
        clear t0 t1 t2 t3 t4
        go_wp2
        go_meet
        case rel => exact Lib.hid (by unfold DoX; rw [HA.out]; exact ⟨HR0.out, _, _, HXB.out, Bt.nil _ _, Bt.nil _ _⟩)
      obtain ⟨hRc, kxv, vxv, hxc, hbk, hbv⟩ := hcut.out
      clear hcut
      have HRC := Lib.hid hRc
      obtain ⟨xs, hown, hkc⟩ := hRc.own
      have x0 : wc.cell? ⟨wr.heap.size + 1, 0, none⟩ = some kxv := cell_cells hxc 0
      have x1 : wc.cell? ⟨wr.heap.size + 1, 1, none⟩ = some vxv := cell_cells hxc 1
      obtain ⟨nk2, Ak2, ck2, rfl⟩ : ∃ n A c, kxv = .slice A n c := by obtain ⟨A, c, e, _⟩ := hbk.1; exact ⟨_, A, c, e⟩
      obtain ⟨nv2, Av2, cv2, rfl⟩ : ∃ n A c, vxv = .slice A n c := by obtain ⟨A, c, e, _⟩ := hbv.1; exact ⟨_, A, c, e⟩
      have HOWN := Lib.hid hown
      have HKC := Lib.hid hkc
      have HBK := Lib.hid hbk
      have HBV := Lib.hid hbv
      obtain ⟨i0, hi0, hz0, hz1, hz2⟩ := info_parts ikv_info
      have htn : ts.length ≤ 100000 := by have := HTN.out; omega
      have HSZ := Lib.hid HRC.out.le.size
      clear hRc hown hkc hbk hbv hxc q1 q2 c1 c2 HR0 HDB HXB HX0 HY0
      go_wp2_with (at_builtin; refine wpList_append_lies _ rfl _ _ 23 rfl w.heap.size 39 i0 (.agg #[.slice none 0 0, .slice none 0 0]) 2 48 Tryz.underlying23 hi0 hz0 hz1 hz2 rfl (by decide) _ _ _ rfl (HOWN.out.alloc _) ⟨wc.heap.size, 0, none⟩ 1 1 [.slice Ak2 nk2 ck2, .slice Av2 nv2 cv2] rfl rfl ?c1 ?c2 ?c3 ?c4 ?c5 ?c6 (wc.heap.size + 1) ?c7 ?_)
      case c1 => exact World.news_of_block (heap_alloc_new wc _)
      case c2 => intro u hu; simp only [List.mem_cons, List.mem_nil_iff, or_false] at hu; rcases hu with rfl | rfl <;> rfl
      case c3 => omega
      case c4 => unfold maxLen; omega
      case c5 => omega
      case c6 => have := HSZ.out; simp; omega
      case c7 => simp
      intro g2 cap2 w2 hown2 hgrow2 hat2 hlt2
      have hrow := own_row' HOWN.out
      have hle3 : Below w.heap.size w w2 := Below.grown' (HRC.out.le.alloc _) hgrow2 (Nat.le_refl _) (fun g hg => (hrow g hg).1)
      have hkeep : ∀ (g : Nat) (cur : Array Value) (fz : Nat × Nat), wc.heap[g]? = some (.cells cur 5 fz) → w2.heap[g]? = wc.heap[g]? := by
        intro g cur fz hg
        have hlt := lt_of_heap hg
        refine (hgrow2.block g (by simp; omega) ?_).trans (Below.heap_alloc _ _ _ hlt)
        intro e
        obtain ⟨_, c', fz', h⟩ := hrow g e.symm
        rw [hg] at h
        injection h with h
        injection h with _ h
        exact absurd h (by decide)
      have hpa : PAx w2 w.heap.size w1.heap.size 0 91 #[.slice none 0 0] (actK l0 (op, K, V)).1 := by
        obtain ⟨v0, hpat⟩ := HRC.out.pa
        have hpat' := hpat.le ((Le.refl wc).alloc (Obj.cells #[.slice Ak2 nk2 ck2, .slice Av2 nv2 cv2] 39))
        refine ⟨v0, hpat'.kept hgrow2 (fun e => ?_) (fun g c fz e hg => ?_)⟩
        · obtain ⟨_, c', fz', h⟩ := hrow _ e
          obtain ⟨_, _, hb, _⟩ := hpat
          rw [h] at hb
          injection hb with hb
          injection hb with _ hb
          exact absurd hb (by decide)
        · obtain ⟨_, c', fz', h⟩ := hrow _ e
          have h2 := ((Le.refl wc).alloc (Obj.cells #[.slice Ak2 nk2 ck2, .slice Av2 nv2 cv2] 39)).heap h
          rw [hg] at h2
          injection h2 with h2
          injection h2 with _ h2
          exact absurd h2 (by decide)
      have HKC2 := Lib.hid ((HKC.out.snoc HOWN.out.1 HBK.out HBV.out (z := (actK l0 (op, K, V)).2)).keep hkeep)
      have HD2 : Hid (DoR w w1.heap.size (actK l0 (op, K, V)).1 (ts ++ [(actK l0 (op, K, V)).2]) (.slice (some ⟨g2, 0, none⟩) (ts.length + 1) cap2) w2) := Lib.hid ⟨hle3, hpa, _, by rw [List.length_append]; exact hown2, HKC2.out⟩
      clear hown2 hgrow2 hat2 hlt2 hrow hkeep hle3 hpa x0 x1
      go_wp2
      go_roundg (gk - 1)
      case measure => omega
      case rel => exact ⟨k + 1, by omega, by go_num, by rw [HT.out]; exact HD2.out, by rw [HT.out]; exact HKN⟩
    · have e : ds.take k = ds := List.take_of_length_le (by omega)
      have HRF := Lib.hid HDR.out
      rw [e] at HRF HKS
      clear e
      obtain ⟨vp, hb, hhp, hown⟩ := HRF.out.pa.hp (HKS.out.mono (by omega))
      have c0 : wr.cell? ⟨w1.heap.size, 0, none⟩ = some vp := cell_cells hb 0
      have HHP := Lib.hid hhp
      clear hb hhp hown
      go_wp2_with fail
      refine (pairs_c wr vp _ HHP.out).mono ?_
      rintro e w5 ⟨v5, rfl, hk5, hle5⟩
      obtain ⟨xs, ho, hkc⟩ := (HRF.out.grow hle5).own
      have HO := Lib.hid (Kq.of_own ho hkc (by have := actsK_len l ds ds.length (Nat.le_refl _); rw [List.take_length] at this; omega))
      have HK5 := Lib.hid (hk5.imp (ψ := (w.heap.size ≤ ·)) (fun g hg => Nat.le_trans HRF.out.le.size hg))
      have HLE5 := Lib.hid (HRF.out.le.trans hle5)
      clear hk5 hle5 ho hkc
      go_wp2
      go_ret2
      exact ⟨_, _, rfl, HK5.out, HO.out, HLE5.out⟩
end Go.Proofs.YtgelnjcjpkklbaaGreatDoor
