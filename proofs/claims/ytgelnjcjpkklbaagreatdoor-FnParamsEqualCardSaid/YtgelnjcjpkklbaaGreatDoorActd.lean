/- Contract: the laws' acted (printed by gen_acted.py). -/
import Derived.Test.YtgelnjcjpkklbaaGreatDoorIDo
import Derived.Test.YtgelnjcjpkklbaaGreatDoorFnPB
import Derived.Test.YtgelnjcjpkklbaaGreatDoorEqs
import Derived.Test.YtgelnjcjpkklbaaGreatDoorSpWc
import Derived.RegionTactic
import Derived.BigRegion
import Derived.Outline
set_option linter.unusedVariables false
set_option linter.unusedSimpArgs false
namespace Go.Proofs.YtgelnjcjpkklbaaGreatDoor
open Go.RowKit

/-! ### the plain law -/
def outE (op : Int) (K V : Tx) (x : Tx × Tx) : KVs := if x.1 = K then (if op = 1 then [] else if op = 0 then [(x.1, V)] else [x]) else [x]
def outL (op : Int) (K V : Tx) (l : KVs) : KVs := l.flatMap (outE op K V)
theorem outL_snoc (op : Int) (K V : Tx) (l : KVs) (x : Tx × Tx) : outL op K V (l ++ [x]) = outL op K V l ++ outE op K V x := by unfold outL; rw [List.flatMap_append]; simp
theorem outE_len (op : Int) (K V : Tx) (x : Tx × Tx) : (outE op K V x).length ≤ 1 := by unfold outE; split <;> (try split) <;> (try split) <;> simp
theorem outL_len (op : Int) (K V : Tx) (l : KVs) : (outL op K V l).length ≤ l.length := by
  unfold outL
  induction l with
  | nil => simp
  | cons x r ih => have := outE_len op K V x; rw [List.flatMap_cons, List.length_append, List.length_cons]; omega
theorem lastv_snoc (l : KVs) (x : Tx × Tx) (k : Tx) : lastv (l ++ [x]) k = if x.1 = k then some x.2 else lastv l k := by
  induction l with
  | nil => rfl
  | cons y r ih =>
    rw [List.cons_append, lastv_cons, ih]
    by_cases e : x.1 = k
    · simp only [if_pos e]
    · simp only [if_neg e]; rfl
theorem outL_id {op : Int} {K V : Tx} {l : KVs} (h : (∀ x ∈ l, x.1 ≠ K) ∨ (op ≠ 0 ∧ op ≠ 1)) : outL op K V l = l := by
  unfold outL
  induction l with
  | nil => rfl
  | cons x r ih =>
    rw [List.flatMap_cons, ih (h.imp (fun h y hy => h y (by simp [hy])) id)]
    have : outE op K V x = [x] := by
      unfold outE
      rcases h with h | ⟨h0, h1⟩
      · rw [if_neg (h x (by simp))]
      · by_cases e : x.1 = K
        · rw [if_pos e, if_neg h1, if_neg h0]
        · rw [if_neg e]
    rw [this]
    rfl
theorem fnd_no {l : KVs} {k : Tx} (h : fnd l k = none) : ∀ x ∈ l, x.1 ≠ k := by
  intro x hx e
  induction l with
  | nil => cases hx
  | cons y r ih =>
    rw [fnd_cons] at h
    split at h
    · cases h
    · rename_i hn
      rcases List.mem_cons.1 hx with rfl | hx
      · exact hn e
      · exact ih h hx
theorem out_add {K V : Tx} : ∀ {l : KVs}, DK l → addKV l K V = (if fnd l K = none then outL 0 K V l ++ [(K, V)] else outL 0 K V l)
  | [], _ => rfl
  | x :: r, hd => by
    obtain ⟨h1, h2⟩ := List.pairwise_cons.1 hd
    unfold addKV
    rw [fnd_cons]
    by_cases e : x.1 = K
    · rw [if_pos e, if_pos e, if_neg (by simp)]
      have h3 : outL 0 K V r = r := outL_id (.inl fun y hy => by rw [← e]; exact fun e2 => h1 y hy e2.symm)
      have h4 : outL 0 K V (x :: r) = outE 0 K V x ++ outL 0 K V r := rfl
      rw [h4, h3]
      unfold outE
      rw [if_pos e, if_neg (by decide), if_pos rfl, e]
      rfl
    · rw [if_neg e, if_neg e, out_add h2]
      have h4 : outL 0 K V (x :: r) = x :: outL 0 K V r := by
        have : outL 0 K V (x :: r) = outE 0 K V x ++ outL 0 K V r := rfl
        rw [this]
        unfold outE
        rw [if_neg e]
        rfl
      rw [h4]
      split <;> rfl
theorem out_rm {K V : Tx} : ∀ (l : KVs), rmK l K = outL 1 K V l
  | [] => rfl
  | x :: r => by
    have h4 : outL 1 K V (x :: r) = outE 1 K V x ++ outL 1 K V r := rfl
    rw [h4, ← out_rm r]
    unfold rmK outE
    by_cases e : x.1 = K
    · rw [List.filter_cons_of_neg (by simp [e]), if_pos e, if_pos rfl]; rfl
    · rw [List.filter_cons_of_pos (by simpa using e), if_neg e]; rfl
/-- the list behind an act, as it is written -/
def actO (op : Int) (K V : Tx) (l : KVs) : KVs := if op = 0 ∧ lastv l K = none then outL op K V l ++ [(K, V)] else outL op K V l
theorem actO_is {op : Int} {K V : Tx} {l : KVs} (hd : DK l) (h : 0 ≤ op ∧ op ≤ 4) : actO op K V l = (actK l (op, K, V)).1 := by
  unfold actO actK
  rw [lastv_fnd hd]
  rcases (by omega : op = 0 ∨ op = 1 ∨ (op = 2 ∨ op = 3 ∨ op = 4)) with rfl | rfl | h
  · rw [if_pos rfl, out_add hd]
    by_cases e : fnd l K = none
    · rw [if_pos ⟨rfl, e⟩, if_pos e]
    · rw [if_neg (fun h => e h.2), if_neg e]
  · rw [if_neg (fun h => absurd h.1 (by decide))]
    exact (out_rm l).symm
  · rw [if_neg (by omega), outL_id (.inr ⟨by omega, by omega⟩), if_neg (by omega), if_neg (by omega)]
    split
    · rfl
    · split
      · rfl
      · split <;> rfl

/-! ### the walk -/
/-- a list of pairs: its cells in w, the texts in w0 -/
def Lq (w0 w : World) (v : Value) (l : KVs) : Prop :=
  ∃ A c, v = .slice A l.length c ∧ l.length ≤ c ∧ c ≤ 9223372036854775807 ∧ l.length ≤ 1099511627776 ∧
    (0 < l.length → ∃ g o, A = some ⟨g, o, none⟩ ∧ ∀ j (h : j < l.length), ∃ x y, w.cell? ⟨g, o + j * 2, none⟩ = some x ∧ w.cell? ⟨g, o + j * 2 + 1, none⟩ = some y ∧ Bv w0 x l[j].1 ∧ Bv w0 y l[j].2)
theorem Lq.of_row {w w0 : World} {base : Nat} {E : TypeId} {v : Value} {xs : List Value} {l : KVs} (h : w.ownsRow base E 2 v l.length xs) (k : PAll w0 xs l) (hl : l.length ≤ 1099511627776) : Lq w0 w v l := by
  have h0 := h
  obtain ⟨_, h2⟩ := h
  rcases h2 with ⟨rfl, hn⟩ | ⟨g, cap, cur, rfl, hg, hh, hle', hm, hs, ht⟩
  · obtain rfl : l = [] := List.eq_nil_of_length_eq_zero hn
    exact ⟨none, 0, rfl, by simp, by simp, by simp, fun h => by simp at h⟩
  · unfold maxLen at hm
    refine ⟨_, _, rfl, hle', hm, hl, fun _ => ⟨g, 0, rfl, fun j hj => ?_⟩⟩
    obtain ⟨x, y, a1, a2, a3, a4⟩ := k.2 j hj
    have b1 := h0.cells (g := g) rfl _ _ a1
    have b2 := h0.cells (g := g) rfl _ _ a2
    rw [add_adr] at b1 b2
    exact ⟨x, y, b1, b2, a3, a4⟩
theorem Lq.le {w0 w w' : World} {v : Value} {l : KVs} (h : Lq w0 w v l) (k : Le w w') : Lq w0 w' v l := by
  obtain ⟨A, c, e, h1, h2, h3, h4⟩ := h
  refine ⟨A, c, e, h1, h2, h3, fun hn => ?_⟩
  obtain ⟨g, o, e, hc⟩ := h4 hn
  exact ⟨g, o, e, fun j hj => by obtain ⟨x, y, a1, a2, a3, a4⟩ := hc j hj; exact ⟨x, y, k.cell a1, k.cell a2, a3, a4⟩⟩
theorem Lq.kq {w0 w : World} {v : Value} {l : KVs} (h : Lq w0 w v l) (k : Le w0 w) : Kq (fun _ => True) w v l := by
  obtain ⟨A, c, e, h1, h2, h3, h4⟩ := h
  refine ⟨A, c, e, h1, h2, h3, fun hn => ?_⟩
  obtain ⟨g, o, e, hc⟩ := h4 hn
  exact ⟨g, o, e, trivial, fun j hj => by obtain ⟨x, y, a1, a2, a3, a4⟩ := hc j hj; exact ⟨x, y, a1, a2, ⟨a3.le k, fun _ _ => trivial⟩, ⟨a4.le k, fun _ _ => trivial⟩⟩⟩
theorem Lq.at_ {w0 w : World} {A : Option Addr} {n c : Nat} {l : KVs} (h : Lq w0 w (.slice A n c) l) {k : Nat} (hk : k < l.length) :
    ∃ g o, A = some ⟨g, o, none⟩ ∧ ∃ x y, w.cell? ⟨g, o + k * 2, none⟩ = some x ∧ w.cell? ⟨g, o + k * 2 + 1, none⟩ = some y ∧ Hid (Bv w0 x l[k].1) ∧ Hid (Bv w0 y l[k].2) := by
  obtain ⟨A', c', e, _, _, _, h4⟩ := h
  injection e with e1 e2 e3
  subst e1
  obtain ⟨g, o, e, hc⟩ := h4 (by omega)
  obtain ⟨x, y, a1, a2, a3, a4⟩ := hc k hk
  exact ⟨g, o, e, x, y, a1, a2, Lib.hid a3, Lib.hid a4⟩
structure AcI (w0 w : World) (dv : Array Value) (out : KVs) (so : Value) (vt : Tx) (W : World) : Prop where
  le : Le w W
  own : ∃ xs, W.ownsRow (w.heap.size + 3) 39 2 so out.length xs ∧ PAll w0 xs out
  db : W.heap[w.heap.size]? = some (.cells dv 58 (0, 0))
  rb : W.heap[w.heap.size + 1]? = some (.cells #[.slice none 0 0, .slice none 0 0] 39 (0, 0))
  tb : ∃ vx, W.heap[w.heap.size + 1 + 1]? = some (.cells #[.slice none 0 0, vx] 39 (0, 0)) ∧ Bv w0 vx vt
section
variable {w0 w W : World} {dv : Array Value} {out : KVs} {so : Value} {vt : Tx}
theorem AcI.grow (h : AcI w0 w dv out so vt W) {W' : World} (k : Le W W') : AcI w0 w dv out so vt W' := by
  obtain ⟨h1, ⟨xs, h2, h3⟩, h4, h5, vx, h6, h7⟩ := h
  exact ⟨h1.trans k, ⟨xs, own_le h2 k, h3⟩, k.heap h4, k.heap h5, vx, k.heap h6, h7⟩
theorem AcI.ne (h : AcI w0 w dv out so vt W) {b : Nat} (hb : b < w.heap.size + 3) : so.ownBlock ≠ some b := by
  intro e
  obtain ⟨xs, h2, _⟩ := h.own
  have := (own_row' h2 _ e).1
  omega
theorem AcI.setv (h : AcI w0 w dv out so vt W) {x : Value} {vt' : Tx} (hx : Bv w0 x vt') : AcI w0 w dv out so vt' (W.setCell ⟨w.heap.size + 1 + 1, 1, none⟩ x) := by
  have hn := h.ne (b := w.heap.size + 1 + 1) (by omega)
  obtain ⟨h1, ⟨xs, h2, h3⟩, h4, h5, vx, h6, h7⟩ := h
  refine ⟨Below.setCell h1 (by show w.heap.size ≤ w.heap.size + 1 + 1; omega) _, ⟨xs, h2.kept (kp_set W _ 1 x) (.inr hn), h3⟩, ?_, ?_, x, heap_set h6 1 x, hx⟩
  · exact (Below.heap_setCell _ _ _ _ (by show w.heap.size ≠ w.heap.size + 1 + 1; omega)).trans h4
  · exact (Below.heap_setCell _ _ _ _ (by show w.heap.size + 1 ≠ w.heap.size + 1 + 1; omega)).trans h5
theorem AcI.setx (h : AcI w0 w dv out so vt W) {xb : Nat} (hx : w.heap.size + 3 ≤ xb) (hn : so.ownBlock ≠ some xb) (j : Nat) (x : Value) : AcI w0 w dv out so vt (W.setCell ⟨xb, j, none⟩ x) := by
  obtain ⟨h1, ⟨xs, h2, h3⟩, h4, h5, vx, h6, h7⟩ := h
  refine ⟨Below.setCell h1 (by show w.heap.size ≤ xb; omega) _, ⟨xs, h2.kept (kp_set W _ j x) (.inr hn), h3⟩, ?_, ?_, vx, ?_, h7⟩
  · exact (Below.heap_setCell _ _ _ _ (by show w.heap.size ≠ xb; omega)).trans h4
  · exact (Below.heap_setCell _ _ _ _ (by show w.heap.size + 1 ≠ xb; omega)).trans h5
  · exact (Below.heap_setCell _ _ _ _ (by show w.heap.size + 1 + 1 ≠ xb; omega)).trans h6
theorem AcI.app (h : AcI w0 w dv out so vt W) {x y : Value} {z : Tx × Tx} (hx : Bv w0 x z.1) (hy : Bv w0 y z.2) {xs : List Value} (ho : W.ownsRow (w.heap.size + 3) 39 2 so out.length xs) (hpa : PAll w0 xs out) {o : Obj} {w2 : World} {v2 : Value}
    (hown : w2.ownsRow (w.heap.size + 3) 39 2 v2 (out.length + 1) (xs ++ [x, y])) (hg : (W.alloc o).grownBy w2 so.ownBlock) : AcI w0 w dv (out ++ [z]) v2 vt w2 := by
  have hne : ∀ b, b < w.heap.size + 3 → so.ownBlock ≠ some b := fun b hb => h.ne hb
  have hrow := own_row' ho
  have h' := h.grow ((Le.refl W).alloc o)
  obtain ⟨h1, _, h4, h5, vx, h6, h7⟩ := h'
  refine ⟨Below.grown' h1 hg (Nat.le_refl _) (fun g hg => by have := (hrow g hg).1; omega), ⟨_, by rw [List.length_append]; exact hown, hpa.snoc hx hy⟩, ?_, ?_, vx, ?_, h7⟩
  · exact (hg.block _ (lt_of_heap h4) (fun e => hne _ (by omega) e.symm)).trans h4
  · exact (hg.block _ (lt_of_heap h5) (fun e => hne _ (by omega) e.symm)).trans h5
  · exact (hg.block _ (lt_of_heap h6) (fun e => hne _ (by omega) e.symm)).trans h6
end
/-- .. ahead of the last line -/
structure AcF (w0 w : World) (out : KVs) (so : Value) (kt vt : Tx) (W : World) : Prop where
  le : Le w W
  own : ∃ xs, W.ownsRow (w.heap.size + 3) 39 2 so out.length xs ∧ PAll w0 xs out
  rb : W.heap[w.heap.size + 1]? = some (.cells #[.slice none 0 0, .slice none 0 0] 39 (0, 0))
  tb : ∃ n1 A1 c1 n2 A2 c2, W.heap[w.heap.size + 1 + 1]? = some (.cells #[.slice A1 n1 c1, .slice A2 n2 c2] 39 (0, 0)) ∧ Bt w.heap.size W (.slice A1 n1 c1) kt ∧ Bv w0 (.slice A2 n2 c2) vt
theorem AcI.fin {w0 w W : World} {dv : Array Value} {out : KVs} {so : Value} {vt : Tx} (h : AcI w0 w dv out so vt W) : AcF w0 w out so [] vt W := by
  obtain ⟨vx, h6, h7⟩ := h.tb
  obtain ⟨A, c, rfl, _⟩ := h7
  exact ⟨h.le, h.own, h.rb, _, _, _, _, _, _, h6, Bt.nil _ _, ⟨_, _, rfl, by assumption⟩⟩
theorem AcI.fin1 {w0 w W : World} {dv : Array Value} {out : KVs} {so : Value} {vt : Tx} (h : AcI w0 w dv out so vt W) : AcF w0 w out so [49] vt ((W.alloc (Obj.cells #[.int .u8 49] 5)).setCell ⟨w.heap.size + 1 + 1, 0, none⟩ (.slice (some ⟨W.heap.size, 0, none⟩) 1 1)) := by
  have hn := h.ne (b := w.heap.size + 1 + 1) (by omega)
  have hsz := h.le.size
  have h' := h.grow ((Le.refl W).alloc (Obj.cells #[.int .u8 49] 5))
  obtain ⟨h1, ⟨xs, h2, h3⟩, h4, h5, vx, h6, h7⟩ := h'
  obtain ⟨A, c, rfl, hr⟩ := h7
  have hb : Bt w.heap.size (W.alloc (Obj.cells #[.int .u8 49] 5)) (.slice (some ⟨W.heap.size, 0, none⟩) 1 1) [49] := ⟨bv_lit W [49] (by decide) (0, 0), fun g hg => by
    have hg' : some W.heap.size = some g := hg
    injection hg' with hg'
    subst hg'
    exact ⟨hsz, _, _, heap_alloc_new W _⟩⟩
  refine ⟨Below.setCell h1 (by show w.heap.size ≤ w.heap.size + 1 + 1; omega) _, ⟨xs, h2.kept (kp_set _ _ 0 _) (.inr hn), h3⟩, ?_, _, _, _, _, _, _, heap_set h6 0 _, hb.keep (setx_bytes h6 (by decide) 0 _), ⟨_, _, rfl, hr⟩⟩
  exact (Below.heap_setCell _ _ _ _ (by show w.heap.size + 1 ≠ w.heap.size + 1 + 1; omega)).trans h5
theorem AcF.last {w0 w W : World} {out : KVs} {so : Value} {kt vt : Tx} (h : AcF w0 w out so kt vt W) (hl : out.length ≤ 1099511627776) {tk tv : Value} (h1 : Bt w.heap.size W tk kt) (h2 : Bv w0 tv vt) :
    ∃ W2, W2 = ((W.setCell ⟨w.heap.size + 1, 0, none⟩ tk).setCell ⟨w.heap.size + 1, 1, none⟩ tv).drew ∧ W2.heap[w.heap.size + 1]? = some (.cells #[tk, tv] 39 (0, 0)) ∧ (∃ xs, W2.ownsRow (w.heap.size + 3) 39 2 so out.length xs ∧ PAll w0 xs out) ∧ Bt w.heap.size W2 tk kt ∧ Bv w0 tv vt ∧ Le w W2 := by
  obtain ⟨xs, ho, hpa⟩ := h.own
  have hn : so.ownBlock ≠ some (w.heap.size + 1) := by
    intro e
    have := (own_row' ho _ e).1
    omega
  have b1 := heap_set h.rb 0 tk
  have b2 := heap_set b1 1 tv
  have le2 : Le w ((W.setCell ⟨w.heap.size + 1, 0, none⟩ tk).setCell ⟨w.heap.size + 1, 1, none⟩ tv) := Below.setCell (Below.setCell h.le (by show w.heap.size ≤ w.heap.size + 1; omega) _) (by show w.heap.size ≤ w.heap.size + 1; omega) _
  have o2 := (ho.kept (kp_set W (w.heap.size + 1) 0 tk) (.inr hn)).kept (kp_set _ (w.heap.size + 1) 1 tv) (.inr hn)
  have t2 := (h1.keep (setx_bytes h.rb (by decide) 0 tk)).keep (setx_bytes b1 (by decide) 1 tv)
  exact ⟨_, rfl, b2, ⟨xs, own_le o2 (Le.refl _).drew, hpa⟩, t2.le (Le.refl _).drew, h2, le2.drew⟩
theorem results_tmp_cell {fn : Func} {p u : Tmp} {ty : TypeId} (h : fn.results = #[.tmp u, .cell p ty]) (tmps : Array Value) (P : Program) (w : World) :
    (results fn tmps).run P w = ((asAddr (tmps.getD p undef)).run P w).andThen fun a w' => ((loadVar ty a).run P w').andThen fun v w'' => .ok (.tuple #[tmps.getD u undef, v]) w'' := by
  simp only [results, h]
  simp [Sem.run_bind, Result.andThen]
theorem ac_results {W : World} {b : Nat} {row : Array Value} {a : Act} {v : Value} (h : W.heap[b]? = some (.cells row 39 (0, 0)))
    (h2 : a.tmps.getD 5 undef = .pointer (some ⟨b, 0, none⟩)) (h3 : a.tmps.getD 4 undef = v) (hs : row.size = 2) :
    (results Tryz.f41 a.tmps).run Tryz.prog W = .ok (.tuple #[v, .agg row]) W := by
  rw [results_tmp_cell rfl, h2, h3]
  simp only [asAddr, Sem.run_pure, Result.andThen_ok, run_loadVar_row W _ _ _ _ _ _ h Tryz.underlying39 rfl (by rw [hs]; kernel_rfl)]
def ActPost (w0 : World) (l : KVs) (op : Int) (K V : Tx) (w : World) (e : Ending) (w' : World) : Prop :=
  ∃ v' tk tv, e = .returned (.tuple #[v', .agg #[tk, tv]]) ∧ (∃ xs, w'.ownsRow (w.heap.size + 3) 39 2 v' (actK l (op, K, V)).1.length xs ∧ PAll w0 xs (actK l (op, K, V)).1) ∧ Bt w.heap.size w' tk (actK l (op, K, V)).2.1 ∧ Bv w0 tv (actK l (op, K, V)).2.2 ∧ Le w w'
set_option maxRecDepth 100000 in
set_option maxHeartbeats 8000000 in
theorem acted_c (w0 w : World) (h0 : Le w0 w) (v kv vv : Value) (l : KVs) (op : Int) (K V : Tx) (hv : Lq w0 w v l) (hk : Bv w0 kv K) (hvv : Bv w0 vv V) (hd : DK l) (hop : 0 ≤ op ∧ op ≤ 4) (hll : l.length ≤ 100000) :
    Calls Tryz.prog 41 #[v, .agg #[.int .i64 op, kv, vv]] w (ActPost w0 l op K V w) := by
  have H0 := Lib.hid h0
  have HV := Lib.hid hv
  have HK := Lib.hid hk
  have HVV := Lib.hid hvv
  have HD := Lib.hid hd
  have HOP := Lib.hid hop
  obtain ⟨A, c, rfl, h1, h2, h3, _⟩ := hv
  obtain ⟨Ak, ck, rfl, _⟩ := bv_slice hk
  obtain ⟨Avv, cvv, rfl, _⟩ := bv_slice hvv
  obtain ⟨i0, hi0, hz0, hz1, hz2⟩ := info_parts ikv_info
  clear hk hvv hd hop
  generalize hnk : K.length = nk at HK ⊢
  generalize hnv : V.length = nvv at HVV ⊢
  clear hnk hnv
  go_enter Tryz.func41, Tryz.ntmps41
  go_upto_region 4 with fail
  have hst : AcI w0 w #[.int .i64 op, .slice Ak nk ck, .slice Avv nvv cvv] [] (.slice none 0 0) [] (((w.alloc (Obj.cells #[.int .i64 op, .slice Ak nk ck, .slice Avv nvv cvv] 58)).alloc (Obj.cells #[.slice none 0 0, .slice none 0 0] 39)).alloc (Obj.cells #[.slice none 0 0, .slice none 0 0] 39)) := by
    refine ⟨(((Le.refl w).alloc _).alloc _).alloc _, ⟨[], World.ownsRow_nil _ _ _ _, PAll.nil _⟩, (((Le.refl _).alloc _).alloc _).heap (heap_alloc_new w _), ((Le.refl _).alloc _).heap (heap_alloc2_new w _ _), .slice none 0 0, ?_, Bv.nil w0⟩
    have h := heap_alloc2_new (w.alloc (Obj.cells #[.int .i64 op, .slice Ak nk ck, .slice Avv nvv cvv] 58)) (Obj.cells #[.slice none 0 0, .slice none 0 0] 39) (Obj.cells #[.slice none 0 0, .slice none 0 0] 39)
    have e : (w.alloc (Obj.cells #[.int .i64 op, .slice Ak nk ck, .slice Avv nvv cvv] 58)).heap.size = w.heap.size + 1 := by simp
    rw [e] at h
    exact h
  have HST := Lib.hid hst
  clear hst
  go_loopg [6, 7, 9] (l.length) (fun n s6 s7 s9 wr => ∃ k : Nat, n + k = l.length ∧ s9 = .int .i64 k ∧ s7 = .bool (lastv (l.take k) K).isSome ∧ Hid (AcI w0 w #[.int .i64 op, .slice Ak nk ck, .slice Avv nvv cvv] (outL op K V (l.take k)) s6 ((lastv (l.take k) K).getD []) wr))
  case atStart => exact ⟨0, by omega, rfl, rfl, HST⟩
  case round =>
    obtain ⟨k, hn, rfl, rfl, HI⟩ := hrel
    have HN : gk + k ≤ l.length ∧ l.length ≤ gk + k := by omega
    clear hn
    by_cases hlt : k < l.length
    · obtain ⟨g, o, rfl, x, y, d1, d2, X, Y⟩ := HV.out.at_ hlt
      have e1 := HI.out.le.cell d1
      have e2 := HI.out.le.cell d2
      have HOT : Hid (outL op K V (l.take (k + 1)) = outL op K V (l.take k) ++ outE op K V l[k]) := Lib.hid (by rw [List.take_succ_eq_append_getElem hlt, outL_snoc])
      have HLV : Hid (lastv (l.take (k + 1)) K = if l[k].1 = K then some l[k].2 else lastv (l.take k) K) := Lib.hid (by rw [List.take_succ_eq_append_getElem hlt, lastv_snoc])
      obtain ⟨nx, Ax, cx, rfl⟩ : ∃ n A c, x = .slice A n c := by obtain ⟨A, c, e, _⟩ := X.out; exact ⟨_, A, c, e⟩
      obtain ⟨ny, Ay, cy, rfl⟩ : ∃ n A c, y = .slice A n c := by obtain ⟨A, c, e, _⟩ := Y.out; exact ⟨_, A, c, e⟩
      have HOL : Hid ((outL op K V (l.take k)).length ≤ 100000) := Lib.hid (by have := outL_len op K V (l.take k); rw [List.length_take] at this; omega)
      have HIL : Hid (w.heap.size + 3 ≤ wr.heap.size) := Lib.hid (by obtain ⟨tv, htb, _⟩ := HI.out.tb; have := lt_of_heap htb; omega)
      have HNE : Hid (u6.ownBlock ≠ some wr.heap.size) := Lib.hid (fun e => by
        obtain ⟨xs, ho, _⟩ := HI.out.own
        obtain ⟨_, c, fz, hc⟩ := own_row' ho _ e
        have := lt_of_heap hc
        omega)
      have HI1 := Lib.hid (HI.out.grow ((Le.refl wr).alloc (Obj.cells #[.slice Ax nx cx, .slice Ay ny cy] 39)))
      have HX1 : Hid ((wr.alloc (Obj.cells #[.slice Ax nx cx, .slice Ay ny cy] 39)).heap[wr.heap.size]? = some (.cells #[.slice Ax nx cx, .slice Ay ny cy] 39 (0, 0))) := Lib.hid (heap_alloc_new wr _)
      clear d1 d2
      generalize outL op K V (l.take k) = out0 at HI HI1 HOT HOL
      generalize lastv (l.take k) K = lv0 at HI HI1 HLV ⊢
      go_upto_region 7 with fail
      clear e1 e2
      generalize wr.alloc (Obj.cells #[.slice Ax nx cx, .slice Ay ny cy] 39) = W1 at HI1 HX1 ⊢
      have db0 : W1.cell? ⟨w.heap.size, 0, none⟩ = some (.int .i64 op) := cell_cells HI1.out.db 0
      have db1 : W1.cell? ⟨w.heap.size, 1, none⟩ = some (.slice Ak nk ck) := cell_cells HI1.out.db 1
      have db2 : W1.cell? ⟨w.heap.size, 2, none⟩ = some (.slice Avv nvv cvv) := cell_cells HI1.out.db 2
      obtain ⟨tv, htb, htv⟩ := HI1.out.tb
      obtain ⟨nt, At, ct, rfl⟩ : ∃ n A c, tv = .slice A n c := by obtain ⟨A, c, e, _⟩ := htv; exact ⟨_, A, c, e⟩
      have tb1 : W1.cell? ⟨w.heap.size + 1 + 1, 1, none⟩ = some (.slice At nt ct) := cell_cells htb 1
      have tb0 : W1.cell? ⟨w.heap.size + 1 + 1, 0, none⟩ = some (.slice none 0 0) := cell_cells htb 0
      have tz1 : W1.frozen? ⟨w.heap.size + 1 + 1, 1, none⟩ = false := frozen_cells htb 1
      have tz0 : W1.frozen? ⟨w.heap.size + 1 + 1, 0, none⟩ = false := frozen_cells htb 0
      have x0 : W1.cell? ⟨wr.heap.size, 0, none⟩ = some (.slice Ax nx cx) := cell_cells HX1.out 0
      have x1 : W1.cell? ⟨wr.heap.size, 1, none⟩ = some (.slice Ay ny cy) := cell_cells HX1.out 1
      have xz1 : W1.frozen? ⟨wr.heap.size, 1, none⟩ = false := frozen_cells HX1.out 1
      obtain ⟨r, hr⟩ : ∃ r, decide (l[k].1 = K) = r := ⟨_, rfl⟩
      go_wp2_with fail
      refine (equal_e W1 _ _ l[k].1 K r hr (X.out.le (H0.out.trans HI1.out.le)) (HK.out.le (H0.out.trans HI1.out.le))).mono ?_
      rintro e w5 ⟨rfl, hle5⟩
      have HI5 := Lib.hid (HI1.out.grow hle5)
      have HX5 := Lib.hid (hle5.heap HX1.out)
      have HR := Lib.hid hr
      clear db0 db1 db2 htb htv tb1 tb0 tz1 tz0 x0 x1 xz1
      clear hle5 hr
      have db0 : w5.cell? ⟨w.heap.size, 0, none⟩ = some (.int .i64 op) := cell_cells HI5.out.db 0
      have db1 : w5.cell? ⟨w.heap.size, 1, none⟩ = some (.slice Ak nk ck) := cell_cells HI5.out.db 1
      have db2 : w5.cell? ⟨w.heap.size, 2, none⟩ = some (.slice Avv nvv cvv) := cell_cells HI5.out.db 2
      obtain ⟨tv, htb, htv⟩ := HI5.out.tb
      obtain ⟨nt, At, ct, rfl⟩ : ∃ n A c, tv = .slice A n c := by obtain ⟨A, c, e, _⟩ := htv; exact ⟨_, A, c, e⟩
      have tb1 : w5.cell? ⟨w.heap.size + 1 + 1, 1, none⟩ = some (.slice At nt ct) := cell_cells htb 1
      have tb0 : w5.cell? ⟨w.heap.size + 1 + 1, 0, none⟩ = some (.slice none 0 0) := cell_cells htb 0
      have tz1 : w5.frozen? ⟨w.heap.size + 1 + 1, 1, none⟩ = false := frozen_cells htb 1
      have tz0 : w5.frozen? ⟨w.heap.size + 1 + 1, 0, none⟩ = false := frozen_cells htb 0
      have x0 : w5.cell? ⟨wr.heap.size, 0, none⟩ = some (.slice Ax nx cx) := cell_cells HX5.out 0
      have x1 : w5.cell? ⟨wr.heap.size, 1, none⟩ = some (.slice Ay ny cy) := cell_cells HX5.out 1
      have xz1 : w5.frozen? ⟨wr.heap.size, 1, none⟩ = false := frozen_cells HX5.out 1
      cases r
      case false =>
        have hq := of_decide_eq_false HR.out
        have HE : Hid (outE op K V l[k] = [l[k]]) := Lib.hid (by unfold outE; rw [if_neg hq])
        have HE2 := Lib.hid (HLV.out.trans (if_neg hq))
        obtain ⟨xs, ho, hpa⟩ := HI5.out.own
        have HO5 := Lib.hid ho
        have HPA := Lib.hid hpa
        have HSZ5 := Lib.hid HI5.out.le.size
        have hob := HOL.out
        have hsz5 : w.heap.size + 3 ≤ w5.heap.size := by have := lt_of_heap HX5.out; have := HIL.out; omega
        clear ho hpa hq
        go_wp2_with (at_builtin; refine wpList_append_lies _ rfl _ _ 23 rfl (w.heap.size + 3) 39 i0 (.agg #[.slice none 0 0, .slice none 0 0]) 2 48 Tryz.underlying23 hi0 hz0 hz1 hz2 rfl (by decide) _ _ _ rfl (HO5.out.alloc _) ⟨w5.heap.size, 0, none⟩ 1 1 [.slice Ax nx cx, .slice Ay ny cy] rfl rfl ?c1 ?c2 ?c3 ?c4 ?c5 ?c6 (w5.heap.size + 1) ?c7 ?_)
        case c1 => exact World.news_of_block (heap_alloc_new w5 _)
        case c2 => intro u hu; simp only [List.mem_cons, List.mem_nil_iff, or_false] at hu; rcases hu with rfl | rfl <;> rfl
        case c3 => omega
        case c4 => unfold maxLen; omega
        case c5 => omega
        case c6 => have := hsz5; simp; omega
        case c7 => simp
        intro g2 cap2 w2 hown2 hgrow2 hat2 hlt2
        have HF : Hid (AcI w0 w #[.int .i64 op, .slice Ak nk ck, .slice Avv nvv cvv] (outL op K V (l.take (k + 1))) (.slice (some ⟨g2, 0, none⟩) (out0.length + 1) cap2) ((lastv (l.take (k + 1)) K).getD []) w2) := Lib.hid (by
          rw [HOT.out, HE.out, HE2.out]
          exact HI5.out.app X.out Y.out HO5.out HPA.out hown2 hgrow2)
        clear hown2 hgrow2 hat2 hlt2
        rw [← HE2.out]
        go_wp2
        go_roundg (gk - 1)
        case measure => omega
        case rel => exact ⟨k + 1, by omega, by go_num, rfl, HF⟩
      case true =>
        have hq := of_decide_eq_true HR.out
        have HQ := Lib.hid hq
        have HE2 : Hid (lastv (l.take (k + 1)) K = some l[k].2) := Lib.hid (HLV.out.trans (if_pos hq))
        have hi6 := HI5.out.setv (x := .slice Ay ny cy) Y.out
        have HI6 := Lib.hid hi6
        have HX6 : Hid ((w5.setCell ⟨w.heap.size + 1 + 1, 1, none⟩ (.slice Ay ny cy)).heap[wr.heap.size]? = some (.cells #[.slice Ax nx cx, .slice Ay ny cy] 39 (0, 0))) := Lib.hid ((Below.heap_setCell _ _ _ _ (by show wr.heap.size ≠ w.heap.size + 1 + 1; have := HIL.out; omega)).trans HX5.out)
        clear hq hi6
        go_upto_region 10 with fail
        clear db0 db1 db2 htb htv tb1 tb0 tz1 tz0 x0 x1 xz1
        generalize w5.setCell ⟨w.heap.size + 1 + 1, 1, none⟩ (.slice Ay ny cy) = w6 at HI6 HX6 ⊢
        have db0 : w6.cell? ⟨w.heap.size, 0, none⟩ = some (.int .i64 op) := cell_cells HI6.out.db 0
        have db1 : w6.cell? ⟨w.heap.size, 1, none⟩ = some (.slice Ak nk ck) := cell_cells HI6.out.db 1
        have db2 : w6.cell? ⟨w.heap.size, 2, none⟩ = some (.slice Avv nvv cvv) := cell_cells HI6.out.db 2
        obtain ⟨tv, htb, htv⟩ := HI6.out.tb
        obtain ⟨nt, At, ct, rfl⟩ : ∃ n A c, tv = .slice A n c := by obtain ⟨A, c, e, _⟩ := htv; exact ⟨_, A, c, e⟩
        have tb1 : w6.cell? ⟨w.heap.size + 1 + 1, 1, none⟩ = some (.slice At nt ct) := cell_cells htb 1
        have tb0 : w6.cell? ⟨w.heap.size + 1 + 1, 0, none⟩ = some (.slice none 0 0) := cell_cells htb 0
        have tz1 : w6.frozen? ⟨w.heap.size + 1 + 1, 1, none⟩ = false := frozen_cells htb 1
        have tz0 : w6.frozen? ⟨w.heap.size + 1 + 1, 0, none⟩ = false := frozen_cells htb 0
        have x0 : w6.cell? ⟨wr.heap.size, 0, none⟩ = some (.slice Ax nx cx) := cell_cells HX6.out 0
        have x1 : w6.cell? ⟨wr.heap.size, 1, none⟩ = some (.slice Ay ny cy) := cell_cells HX6.out 1
        have xz1 : w6.frozen? ⟨wr.heap.size, 1, none⟩ = false := frozen_cells HX6.out 1
        by_cases o1 : op = 1
        · have f1 : (op == 1) = true := by simp [o1]
          have HE : Hid (outE op K V l[k] = []) := Lib.hid (by unfold outE; rw [if_pos HQ.out, if_pos o1])
          have HF : Hid (AcI w0 w #[.int .i64 op, .slice Ak nk ck, .slice Avv nvv cvv] (outL op K V (l.take (k + 1))) u6 ((lastv (l.take (k + 1)) K).getD []) w6) := Lib.hid (by
            rw [HOT.out, HE.out, HE2.out, List.append_nil]
            exact HI6.out)
          have HS : Hid ((lastv (l.take (k + 1)) K).isSome = true) := Lib.hid (by rw [HE2.out]; rfl)
          clear o1
          go_wp2
          go_roundg (gk - 1)
          case measure => omega
          case rel => exact ⟨k + 1, by omega, by go_num, by rw [HS.out], HF⟩
        have f1 : (op == 1) = false := by simpa using o1
        by_cases o0 : op = 0
        · have f0 : (op == 0) = true := by simp [o0]
          have HE : Hid (outE op K V l[k] = [(l[k].1, V)]) := Lib.hid (by unfold outE; rw [if_pos HQ.out, if_neg o1, if_pos o0])
          have hi7 := HI6.out.setx HIL.out HNE.out 1 (.slice Avv nvv cvv)
          have HI7 := Lib.hid hi7
          have HX7 := Lib.hid (heap_set HX6.out 1 (.slice Avv nvv cvv))
          clear o1 o0 hi7
          go_upto_region 13 with fail
          clear db0 db1 db2 htb htv tb1 tb0 tz1 tz0 x0 x1 xz1
          generalize w6.setCell ⟨wr.heap.size, 1, none⟩ (.slice Avv nvv cvv) = w7 at HI7 HX7 ⊢
          have x0 : w7.cell? ⟨wr.heap.size, 0, none⟩ = some (.slice Ax nx cx) := cell_cells HX7.out 0
          have x1 : w7.cell? ⟨wr.heap.size, 1, none⟩ = some (.slice Avv nvv cvv) := cell_cells HX7.out 1
          obtain ⟨xs, ho, hpa⟩ := HI7.out.own
          have HO7 := Lib.hid ho
          have HPA := Lib.hid hpa
          have hob := HOL.out
          have hsz7 : w.heap.size + 3 ≤ w7.heap.size := by have := lt_of_heap HX7.out; have := HIL.out; omega
          clear ho hpa
          go_wp2_with (at_builtin; refine wpList_append_lies _ rfl _ _ 23 rfl (w.heap.size + 3) 39 i0 (.agg #[.slice none 0 0, .slice none 0 0]) 2 48 Tryz.underlying23 hi0 hz0 hz1 hz2 rfl (by decide) _ _ _ rfl (HO7.out.alloc _) ⟨w7.heap.size, 0, none⟩ 1 1 [.slice Ax nx cx, .slice Avv nvv cvv] rfl rfl ?c1 ?c2 ?c3 ?c4 ?c5 ?c6 (w7.heap.size + 1) ?c7 ?_)
          case c1 => exact World.news_of_block (heap_alloc_new w7 _)
          case c2 => intro u hu; simp only [List.mem_cons, List.mem_nil_iff, or_false] at hu; rcases hu with rfl | rfl <;> rfl
          case c3 => omega
          case c4 => unfold maxLen; omega
          case c5 => omega
          case c6 => have := hsz7; simp; omega
          case c7 => simp
          intro g2 cap2 w2 hown2 hgrow2 hat2 hlt2
          have HF : Hid (AcI w0 w #[.int .i64 op, .slice Ak nk ck, .slice Avv nvv cvv] (outL op K V (l.take (k + 1))) (.slice (some ⟨g2, 0, none⟩) (out0.length + 1) cap2) ((lastv (l.take (k + 1)) K).getD []) w2) := Lib.hid (by
            rw [HOT.out, HE.out, HE2.out]
            exact HI7.out.app (z := (l[k].1, V)) X.out HVV.out HO7.out HPA.out hown2 hgrow2)
          have HS : Hid ((lastv (l.take (k + 1)) K).isSome = true) := Lib.hid (by rw [HE2.out]; rfl)
          clear hown2 hgrow2 hat2 hlt2
          go_wp2
          go_roundg (gk - 1)
          case measure => omega
          case rel => exact ⟨k + 1, by omega, by go_num, by rw [HS.out], HF⟩
        · have f0 : (op == 0) = false := by simpa using o0
          have HE : Hid (outE op K V l[k] = [l[k]]) := Lib.hid (by unfold outE; rw [if_pos HQ.out, if_neg o1, if_neg o0])
          obtain ⟨xs, ho, hpa⟩ := HI6.out.own
          have HO6 := Lib.hid ho
          have HPA := Lib.hid hpa
          have hob := HOL.out
          have hsz6 : w.heap.size + 3 ≤ w6.heap.size := by have := lt_of_heap HX6.out; have := HIL.out; omega
          clear ho hpa o0 o1
          go_wp2_with (at_builtin; refine wpList_append_lies _ rfl _ _ 23 rfl (w.heap.size + 3) 39 i0 (.agg #[.slice none 0 0, .slice none 0 0]) 2 48 Tryz.underlying23 hi0 hz0 hz1 hz2 rfl (by decide) _ _ _ rfl (HO6.out.alloc _) ⟨w6.heap.size, 0, none⟩ 1 1 [.slice Ax nx cx, .slice Ay ny cy] rfl rfl ?c1 ?c2 ?c3 ?c4 ?c5 ?c6 (w6.heap.size + 1) ?c7 ?_)
          case c1 => exact World.news_of_block (heap_alloc_new w6 _)
          case c2 => intro u hu; simp only [List.mem_cons, List.mem_nil_iff, or_false] at hu; rcases hu with rfl | rfl <;> rfl
          case c3 => omega
          case c4 => unfold maxLen; omega
          case c5 => omega
          case c6 => have := hsz6; simp; omega
          case c7 => simp
          intro g2 cap2 w2 hown2 hgrow2 hat2 hlt2
          have HF : Hid (AcI w0 w #[.int .i64 op, .slice Ak nk ck, .slice Avv nvv cvv] (outL op K V (l.take (k + 1))) (.slice (some ⟨g2, 0, none⟩) (out0.length + 1) cap2) ((lastv (l.take (k + 1)) K).getD []) w2) := Lib.hid (by
            rw [HOT.out, HE.out, HE2.out]
            exact HI6.out.app X.out Y.out HO6.out HPA.out hown2 hgrow2)
          have HS : Hid ((lastv (l.take (k + 1)) K).isSome = true) := Lib.hid (by rw [HE2.out]; rfl)
          clear hown2 hgrow2 hat2 hlt2
          go_wp2
          go_roundg (gk - 1)
          case measure => omega
          case rel => exact ⟨k + 1, by omega, by go_num, by rw [HS.out], HF⟩
    · have e : l.take k = l := List.take_of_length_le (by omega)
      rw [e] at HI ⊢
      clear e
      have HOP2 := HOP.out
      generalize hlv : lastv l K = lv0 at HI ⊢
      have HLV := Lib.hid hlv
      clear hlv
      cases lv0
      case none =>
        dsimp only [Option.isSome, Option.getD] at HI ⊢
        rcases (by omega : op = 0 ∨ op = 1 ∨ op = 2 ∨ op = 3 ∨ op = 4) with rfl | rfl | rfl | rfl | rfl
        · have db0 : wr.cell? ⟨w.heap.size, 0, none⟩ = some (.int .i64 0) := cell_cells HI.out.db 0
          have db1 : wr.cell? ⟨w.heap.size, 1, none⟩ = some (.slice Ak nk ck) := cell_cells HI.out.db 1
          have db2 : wr.cell? ⟨w.heap.size, 2, none⟩ = some (.slice Avv nvv cvv) := cell_cells HI.out.db 2
          obtain ⟨tv, htb, htv⟩ := HI.out.tb
          obtain ⟨nt, At, ct, rfl⟩ : ∃ n A c, tv = .slice A n c := by obtain ⟨A, c, e, _⟩ := htv; exact ⟨_, A, c, e⟩
          have tb1 : wr.cell? ⟨w.heap.size + 1 + 1, 1, none⟩ = some (.slice At nt ct) := cell_cells htb 1
          have tb0 : wr.cell? ⟨w.heap.size + 1 + 1, 0, none⟩ = some (.slice none 0 0) := cell_cells htb 0
          have tz1 : wr.frozen? ⟨w.heap.size + 1 + 1, 1, none⟩ = false := frozen_cells htb 1
          have tz0 : wr.frozen? ⟨w.heap.size + 1 + 1, 0, none⟩ = false := frozen_cells htb 0
          obtain ⟨xs, ho, hpa⟩ := HI.out.own
          have HO5 := Lib.hid ho
          have HPA := Lib.hid hpa
          have hob : (outL 0 K V l).length ≤ 100000 := by have := outL_len 0 K V l; omega
          have hszr : w.heap.size + 3 ≤ wr.heap.size := by have := lt_of_heap htb; omega
          clear ho hpa
          go_wp2_with (at_builtin; refine wpList_append_lies _ rfl _ _ 23 rfl (w.heap.size + 3) 39 i0 (.agg #[.slice none 0 0, .slice none 0 0]) 2 48 Tryz.underlying23 hi0 hz0 hz1 hz2 rfl (by decide) _ _ _ rfl (HO5.out.alloc _) ⟨wr.heap.size, 0, none⟩ 1 1 [.slice Ak nk ck, .slice Avv nvv cvv] rfl rfl ?c1 ?c2 ?c3 ?c4 ?c5 ?c6 (wr.heap.size + 1) ?c7 ?_)
          case c1 => exact World.news_of_block (heap_alloc_new wr _)
          case c2 => intro u hu; simp only [List.mem_cons, List.mem_nil_iff, or_false] at hu; rcases hu with rfl | rfl <;> rfl
          case c3 => omega
          case c4 => unfold maxLen; omega
          case c5 => omega
          case c6 => have := hszr; simp; omega
          case c7 => simp
          intro g2 cap2 w2 hown2 hgrow2 hat2 hlt2
          have HI2 : Hid (AcI w0 w #[.int .i64 0, .slice Ak nk ck, .slice Avv nvv cvv] (outL 0 K V l ++ [(K, V)]) (.slice (some ⟨g2, 0, none⟩) ((outL 0 K V l).length + 1) cap2) [] w2) := Lib.hid (HI.out.app HK.out HVV.out HO5.out HPA.out hown2 hgrow2)
          clear hown2 hgrow2 hat2 hlt2 hob hszr
          clear db0 db1 db2 htb htv tb1 tb0 tz1 tz0
          have db0 : w2.cell? ⟨w.heap.size, 0, none⟩ = some (.int .i64 0) := cell_cells HI2.out.db 0
          have db1 : w2.cell? ⟨w.heap.size, 1, none⟩ = some (.slice Ak nk ck) := cell_cells HI2.out.db 1
          have db2 : w2.cell? ⟨w.heap.size, 2, none⟩ = some (.slice Avv nvv cvv) := cell_cells HI2.out.db 2
          obtain ⟨tv, htb, htv⟩ := HI2.out.tb
          obtain ⟨nt, At, ct, rfl⟩ : ∃ n A c, tv = .slice A n c := by obtain ⟨A, c, e, _⟩ := htv; exact ⟨_, A, c, e⟩
          have tb1 : w2.cell? ⟨w.heap.size + 1 + 1, 1, none⟩ = some (.slice At nt ct) := cell_cells htb 1
          have tb0 : w2.cell? ⟨w.heap.size + 1 + 1, 0, none⟩ = some (.slice none 0 0) := cell_cells htb 0
          have tz1 : w2.frozen? ⟨w.heap.size + 1 + 1, 1, none⟩ = false := frozen_cells htb 1
          have tz0 : w2.frozen? ⟨w.heap.size + 1 + 1, 0, none⟩ = false := frozen_cells htb 0
          go_upto_region 20 with fail
          have HI4 := Lib.hid (HI2.out.setv (Bv.nil w0))
          clear db0 db1 db2 htb htv tb1 tb0 tz1 tz0
          generalize w2.setCell ⟨w.heap.size + 1 + 1, 1, none⟩ (.slice none 0 0) = w4 at HI4 ⊢
          have db0 : w4.cell? ⟨w.heap.size, 0, none⟩ = some (.int .i64 0) := cell_cells HI4.out.db 0
          have db1 : w4.cell? ⟨w.heap.size, 1, none⟩ = some (.slice Ak nk ck) := cell_cells HI4.out.db 1
          have db2 : w4.cell? ⟨w.heap.size, 2, none⟩ = some (.slice Avv nvv cvv) := cell_cells HI4.out.db 2
          obtain ⟨tv, htb, htv⟩ := HI4.out.tb
          obtain ⟨nt, At, ct, rfl⟩ : ∃ n A c, tv = .slice A n c := by obtain ⟨A, c, e, _⟩ := htv; exact ⟨_, A, c, e⟩
          have tb1 : w4.cell? ⟨w.heap.size + 1 + 1, 1, none⟩ = some (.slice At nt ct) := cell_cells htb 1
          have tb0 : w4.cell? ⟨w.heap.size + 1 + 1, 0, none⟩ = some (.slice none 0 0) := cell_cells htb 0
          have tz1 : w4.frozen? ⟨w.heap.size + 1 + 1, 1, none⟩ = false := frozen_cells htb 1
          have tz0 : w4.frozen? ⟨w.heap.size + 1 + 1, 0, none⟩ = false := frozen_cells htb 0
          go_upto_region 22 with fail
          have HF := Lib.hid (HI4.out.fin)
          clear db0 db1 db2 htb htv tb1 tb0 tz1 tz0
          have HE : Hid ((outL 0 K V l ++ [(K, V)]) = (actK l ((0 : Int), K, V)).1) := Lib.hid (by rw [← actO_is HD.out (by decide)]; unfold actO; rw [HLV.out]; rw [if_pos ⟨rfl, rfl⟩])
          have HT : Hid ((actK l ((0 : Int), K, V)).2 = ([], [])) := Lib.hid (by have hl := HLV.out; rw [lastv_fnd HD.out] at hl; unfold actK; simp [hl, isT])
          rw [HE.out] at HF
          obtain ⟨n1, A1, c1, n2, A2, c2, htb, hb1, hb2⟩ := HF.out.tb
          have t0 : w4.cell? ⟨w.heap.size + 1 + 1, 0, none⟩ = some (.slice A1 n1 c1) := cell_cells htb 0
          have t1 : w4.cell? ⟨w.heap.size + 1 + 1, 1, none⟩ = some (.slice A2 n2 c2) := cell_cells htb 1
          have r0 : w4.cell? ⟨w.heap.size + 1, 0, none⟩ = some (.slice none 0 0) := cell_cells HF.out.rb 0
          have r1 : w4.cell? ⟨w.heap.size + 1, 1, none⟩ = some (.slice none 0 0) := cell_cells HF.out.rb 1
          have z0 : w4.frozen? ⟨w.heap.size + 1, 0, none⟩ = false := frozen_cells HF.out.rb 0
          have z1 : w4.frozen? ⟨w.heap.size + 1, 1, none⟩ = false := frozen_cells HF.out.rb 1
          have HB1 := Lib.hid hb1
          have HB2 := Lib.hid hb2
          clear htb hb1 hb2
          go_region
          obtain ⟨W9, hW9, a1, a2, a3, a4, a5⟩ := HF.out.last (by rw [← HE.out]; have h9 := outL_len (0 : Int) K V l; first | omega | (simp only [List.length_append, List.length_cons, List.length_nil]; omega)) HB1.out HB2.out
          rw [← hW9]
          clear hW9 t0 t1 r0 r1 z0 z1
          go_wp2
          exact bodyPost_ret (ac_results a1 rfl rfl rfl) rfl ⟨_, _, _, rfl, a2, by rw [HT.out]; exact a3, by rw [HT.out]; exact a4, a5⟩
        · have db0 : wr.cell? ⟨w.heap.size, 0, none⟩ = some (.int .i64 1) := cell_cells HI.out.db 0
          have db1 : wr.cell? ⟨w.heap.size, 1, none⟩ = some (.slice Ak nk ck) := cell_cells HI.out.db 1
          have db2 : wr.cell? ⟨w.heap.size, 2, none⟩ = some (.slice Avv nvv cvv) := cell_cells HI.out.db 2
          obtain ⟨tv, htb, htv⟩ := HI.out.tb
          obtain ⟨nt, At, ct, rfl⟩ : ∃ n A c, tv = .slice A n c := by obtain ⟨A, c, e, _⟩ := htv; exact ⟨_, A, c, e⟩
          have tb1 : wr.cell? ⟨w.heap.size + 1 + 1, 1, none⟩ = some (.slice At nt ct) := cell_cells htb 1
          have tb0 : wr.cell? ⟨w.heap.size + 1 + 1, 0, none⟩ = some (.slice none 0 0) := cell_cells htb 0
          have tz1 : wr.frozen? ⟨w.heap.size + 1 + 1, 1, none⟩ = false := frozen_cells htb 1
          have tz0 : wr.frozen? ⟨w.heap.size + 1 + 1, 0, none⟩ = false := frozen_cells htb 0
          go_upto_region 20 with fail
          have HI4 := Lib.hid (HI.out.setv (Bv.nil w0))
          clear db0 db1 db2 htb htv tb1 tb0 tz1 tz0
          generalize wr.setCell ⟨w.heap.size + 1 + 1, 1, none⟩ (.slice none 0 0) = w4 at HI4 ⊢
          have db0 : w4.cell? ⟨w.heap.size, 0, none⟩ = some (.int .i64 1) := cell_cells HI4.out.db 0
          have db1 : w4.cell? ⟨w.heap.size, 1, none⟩ = some (.slice Ak nk ck) := cell_cells HI4.out.db 1
          have db2 : w4.cell? ⟨w.heap.size, 2, none⟩ = some (.slice Avv nvv cvv) := cell_cells HI4.out.db 2
          obtain ⟨tv, htb, htv⟩ := HI4.out.tb
          obtain ⟨nt, At, ct, rfl⟩ : ∃ n A c, tv = .slice A n c := by obtain ⟨A, c, e, _⟩ := htv; exact ⟨_, A, c, e⟩
          have tb1 : w4.cell? ⟨w.heap.size + 1 + 1, 1, none⟩ = some (.slice At nt ct) := cell_cells htb 1
          have tb0 : w4.cell? ⟨w.heap.size + 1 + 1, 0, none⟩ = some (.slice none 0 0) := cell_cells htb 0
          have tz1 : w4.frozen? ⟨w.heap.size + 1 + 1, 1, none⟩ = false := frozen_cells htb 1
          have tz0 : w4.frozen? ⟨w.heap.size + 1 + 1, 0, none⟩ = false := frozen_cells htb 0
          go_upto_region 22 with fail
          have HF := Lib.hid (HI4.out.fin)
          clear db0 db1 db2 htb htv tb1 tb0 tz1 tz0
          have HE : Hid ((outL 1 K V l) = (actK l ((1 : Int), K, V)).1) := Lib.hid (by rw [← actO_is HD.out (by decide)]; unfold actO; rw [HLV.out]; rw [if_neg (fun h => absurd h.1 (by decide))])
          have HT : Hid ((actK l ((1 : Int), K, V)).2 = ([], [])) := Lib.hid (by have hl := HLV.out; rw [lastv_fnd HD.out] at hl; unfold actK; simp [hl, isT])
          rw [HE.out] at HF
          obtain ⟨n1, A1, c1, n2, A2, c2, htb, hb1, hb2⟩ := HF.out.tb
          have t0 : w4.cell? ⟨w.heap.size + 1 + 1, 0, none⟩ = some (.slice A1 n1 c1) := cell_cells htb 0
          have t1 : w4.cell? ⟨w.heap.size + 1 + 1, 1, none⟩ = some (.slice A2 n2 c2) := cell_cells htb 1
          have r0 : w4.cell? ⟨w.heap.size + 1, 0, none⟩ = some (.slice none 0 0) := cell_cells HF.out.rb 0
          have r1 : w4.cell? ⟨w.heap.size + 1, 1, none⟩ = some (.slice none 0 0) := cell_cells HF.out.rb 1
          have z0 : w4.frozen? ⟨w.heap.size + 1, 0, none⟩ = false := frozen_cells HF.out.rb 0
          have z1 : w4.frozen? ⟨w.heap.size + 1, 1, none⟩ = false := frozen_cells HF.out.rb 1
          have HB1 := Lib.hid hb1
          have HB2 := Lib.hid hb2
          clear htb hb1 hb2
          go_region
          obtain ⟨W9, hW9, a1, a2, a3, a4, a5⟩ := HF.out.last (by rw [← HE.out]; have h9 := outL_len (1 : Int) K V l; first | omega | (simp only [List.length_append, List.length_cons, List.length_nil]; omega)) HB1.out HB2.out
          rw [← hW9]
          clear hW9 t0 t1 r0 r1 z0 z1
          go_wp2
          exact bodyPost_ret (ac_results a1 rfl rfl rfl) rfl ⟨_, _, _, rfl, a2, by rw [HT.out]; exact a3, by rw [HT.out]; exact a4, a5⟩
        · have db0 : wr.cell? ⟨w.heap.size, 0, none⟩ = some (.int .i64 2) := cell_cells HI.out.db 0
          have db1 : wr.cell? ⟨w.heap.size, 1, none⟩ = some (.slice Ak nk ck) := cell_cells HI.out.db 1
          have db2 : wr.cell? ⟨w.heap.size, 2, none⟩ = some (.slice Avv nvv cvv) := cell_cells HI.out.db 2
          obtain ⟨tv, htb, htv⟩ := HI.out.tb
          obtain ⟨nt, At, ct, rfl⟩ : ∃ n A c, tv = .slice A n c := by obtain ⟨A, c, e, _⟩ := htv; exact ⟨_, A, c, e⟩
          have tb1 : wr.cell? ⟨w.heap.size + 1 + 1, 1, none⟩ = some (.slice At nt ct) := cell_cells htb 1
          have tb0 : wr.cell? ⟨w.heap.size + 1 + 1, 0, none⟩ = some (.slice none 0 0) := cell_cells htb 0
          have tz1 : wr.frozen? ⟨w.heap.size + 1 + 1, 1, none⟩ = false := frozen_cells htb 1
          have tz0 : wr.frozen? ⟨w.heap.size + 1 + 1, 0, none⟩ = false := frozen_cells htb 0
          go_upto_region 22 with fail
          have HF := Lib.hid (HI.out.fin)
          clear db0 db1 db2 htb htv tb1 tb0 tz1 tz0
          have HE : Hid ((outL 2 K V l) = (actK l ((2 : Int), K, V)).1) := Lib.hid (by rw [← actO_is HD.out (by decide)]; unfold actO; rw [HLV.out]; rw [if_neg (fun h => absurd h.1 (by decide))])
          have HT : Hid ((actK l ((2 : Int), K, V)).2 = ([], [])) := Lib.hid (by have hl := HLV.out; rw [lastv_fnd HD.out] at hl; unfold actK; simp [hl, isT])
          rw [HE.out] at HF
          obtain ⟨n1, A1, c1, n2, A2, c2, htb, hb1, hb2⟩ := HF.out.tb
          have t0 : wr.cell? ⟨w.heap.size + 1 + 1, 0, none⟩ = some (.slice A1 n1 c1) := cell_cells htb 0
          have t1 : wr.cell? ⟨w.heap.size + 1 + 1, 1, none⟩ = some (.slice A2 n2 c2) := cell_cells htb 1
          have r0 : wr.cell? ⟨w.heap.size + 1, 0, none⟩ = some (.slice none 0 0) := cell_cells HF.out.rb 0
          have r1 : wr.cell? ⟨w.heap.size + 1, 1, none⟩ = some (.slice none 0 0) := cell_cells HF.out.rb 1
          have z0 : wr.frozen? ⟨w.heap.size + 1, 0, none⟩ = false := frozen_cells HF.out.rb 0
          have z1 : wr.frozen? ⟨w.heap.size + 1, 1, none⟩ = false := frozen_cells HF.out.rb 1
          have HB1 := Lib.hid hb1
          have HB2 := Lib.hid hb2
          clear htb hb1 hb2
          go_region
          obtain ⟨W9, hW9, a1, a2, a3, a4, a5⟩ := HF.out.last (by rw [← HE.out]; have h9 := outL_len (2 : Int) K V l; first | omega | (simp only [List.length_append, List.length_cons, List.length_nil]; omega)) HB1.out HB2.out
          rw [← hW9]
          clear hW9 t0 t1 r0 r1 z0 z1
          go_wp2
          exact bodyPost_ret (ac_results a1 rfl rfl rfl) rfl ⟨_, _, _, rfl, a2, by rw [HT.out]; exact a3, by rw [HT.out]; exact a4, a5⟩
        · have db0 : wr.cell? ⟨w.heap.size, 0, none⟩ = some (.int .i64 3) := cell_cells HI.out.db 0
          have db1 : wr.cell? ⟨w.heap.size, 1, none⟩ = some (.slice Ak nk ck) := cell_cells HI.out.db 1
          have db2 : wr.cell? ⟨w.heap.size, 2, none⟩ = some (.slice Avv nvv cvv) := cell_cells HI.out.db 2
          obtain ⟨tv, htb, htv⟩ := HI.out.tb
          obtain ⟨nt, At, ct, rfl⟩ : ∃ n A c, tv = .slice A n c := by obtain ⟨A, c, e, _⟩ := htv; exact ⟨_, A, c, e⟩
          have tb1 : wr.cell? ⟨w.heap.size + 1 + 1, 1, none⟩ = some (.slice At nt ct) := cell_cells htb 1
          have tb0 : wr.cell? ⟨w.heap.size + 1 + 1, 0, none⟩ = some (.slice none 0 0) := cell_cells htb 0
          have tz1 : wr.frozen? ⟨w.heap.size + 1 + 1, 1, none⟩ = false := frozen_cells htb 1
          have tz0 : wr.frozen? ⟨w.heap.size + 1 + 1, 0, none⟩ = false := frozen_cells htb 0
          go_upto_region 18 with fail
          have HI3 := Lib.hid (HI.out.setv HVV.out)
          clear db0 db1 db2 htb htv tb1 tb0 tz1 tz0
          generalize wr.setCell ⟨w.heap.size + 1 + 1, 1, none⟩ (.slice Avv nvv cvv) = w3 at HI3 ⊢
          have db0 : w3.cell? ⟨w.heap.size, 0, none⟩ = some (.int .i64 3) := cell_cells HI3.out.db 0
          have db1 : w3.cell? ⟨w.heap.size, 1, none⟩ = some (.slice Ak nk ck) := cell_cells HI3.out.db 1
          have db2 : w3.cell? ⟨w.heap.size, 2, none⟩ = some (.slice Avv nvv cvv) := cell_cells HI3.out.db 2
          obtain ⟨tv, htb, htv⟩ := HI3.out.tb
          obtain ⟨nt, At, ct, rfl⟩ : ∃ n A c, tv = .slice A n c := by obtain ⟨A, c, e, _⟩ := htv; exact ⟨_, A, c, e⟩
          have tb1 : w3.cell? ⟨w.heap.size + 1 + 1, 1, none⟩ = some (.slice At nt ct) := cell_cells htb 1
          have tb0 : w3.cell? ⟨w.heap.size + 1 + 1, 0, none⟩ = some (.slice none 0 0) := cell_cells htb 0
          have tz1 : w3.frozen? ⟨w.heap.size + 1 + 1, 1, none⟩ = false := frozen_cells htb 1
          have tz0 : w3.frozen? ⟨w.heap.size + 1 + 1, 0, none⟩ = false := frozen_cells htb 0
          go_upto_region 22 with fail
          have HF := Lib.hid (HI3.out.fin)
          clear db0 db1 db2 htb htv tb1 tb0 tz1 tz0
          have HE : Hid ((outL 3 K V l) = (actK l ((3 : Int), K, V)).1) := Lib.hid (by rw [← actO_is HD.out (by decide)]; unfold actO; rw [HLV.out]; rw [if_neg (fun h => absurd h.1 (by decide))])
          have HT : Hid ((actK l ((3 : Int), K, V)).2 = ([], V)) := Lib.hid (by have hl := HLV.out; rw [lastv_fnd HD.out] at hl; unfold actK; simp [hl, isT])
          rw [HE.out] at HF
          obtain ⟨n1, A1, c1, n2, A2, c2, htb, hb1, hb2⟩ := HF.out.tb
          have t0 : w3.cell? ⟨w.heap.size + 1 + 1, 0, none⟩ = some (.slice A1 n1 c1) := cell_cells htb 0
          have t1 : w3.cell? ⟨w.heap.size + 1 + 1, 1, none⟩ = some (.slice A2 n2 c2) := cell_cells htb 1
          have r0 : w3.cell? ⟨w.heap.size + 1, 0, none⟩ = some (.slice none 0 0) := cell_cells HF.out.rb 0
          have r1 : w3.cell? ⟨w.heap.size + 1, 1, none⟩ = some (.slice none 0 0) := cell_cells HF.out.rb 1
          have z0 : w3.frozen? ⟨w.heap.size + 1, 0, none⟩ = false := frozen_cells HF.out.rb 0
          have z1 : w3.frozen? ⟨w.heap.size + 1, 1, none⟩ = false := frozen_cells HF.out.rb 1
          have HB1 := Lib.hid hb1
          have HB2 := Lib.hid hb2
          clear htb hb1 hb2
          go_region
          obtain ⟨W9, hW9, a1, a2, a3, a4, a5⟩ := HF.out.last (by rw [← HE.out]; have h9 := outL_len (3 : Int) K V l; first | omega | (simp only [List.length_append, List.length_cons, List.length_nil]; omega)) HB1.out HB2.out
          rw [← hW9]
          clear hW9 t0 t1 r0 r1 z0 z1
          go_wp2
          exact bodyPost_ret (ac_results a1 rfl rfl rfl) rfl ⟨_, _, _, rfl, a2, by rw [HT.out]; exact a3, by rw [HT.out]; exact a4, a5⟩
        · have db0 : wr.cell? ⟨w.heap.size, 0, none⟩ = some (.int .i64 4) := cell_cells HI.out.db 0
          have db1 : wr.cell? ⟨w.heap.size, 1, none⟩ = some (.slice Ak nk ck) := cell_cells HI.out.db 1
          have db2 : wr.cell? ⟨w.heap.size, 2, none⟩ = some (.slice Avv nvv cvv) := cell_cells HI.out.db 2
          obtain ⟨tv, htb, htv⟩ := HI.out.tb
          obtain ⟨nt, At, ct, rfl⟩ : ∃ n A c, tv = .slice A n c := by obtain ⟨A, c, e, _⟩ := htv; exact ⟨_, A, c, e⟩
          have tb1 : wr.cell? ⟨w.heap.size + 1 + 1, 1, none⟩ = some (.slice At nt ct) := cell_cells htb 1
          have tb0 : wr.cell? ⟨w.heap.size + 1 + 1, 0, none⟩ = some (.slice none 0 0) := cell_cells htb 0
          have tz1 : wr.frozen? ⟨w.heap.size + 1 + 1, 1, none⟩ = false := frozen_cells htb 1
          have tz0 : wr.frozen? ⟨w.heap.size + 1 + 1, 0, none⟩ = false := frozen_cells htb 0
          go_upto_region 20 with fail
          have HI4 := Lib.hid (HI.out.setv (Bv.nil w0))
          clear db0 db1 db2 htb htv tb1 tb0 tz1 tz0
          generalize wr.setCell ⟨w.heap.size + 1 + 1, 1, none⟩ (.slice none 0 0) = w4 at HI4 ⊢
          have db0 : w4.cell? ⟨w.heap.size, 0, none⟩ = some (.int .i64 4) := cell_cells HI4.out.db 0
          have db1 : w4.cell? ⟨w.heap.size, 1, none⟩ = some (.slice Ak nk ck) := cell_cells HI4.out.db 1
          have db2 : w4.cell? ⟨w.heap.size, 2, none⟩ = some (.slice Avv nvv cvv) := cell_cells HI4.out.db 2
          obtain ⟨tv, htb, htv⟩ := HI4.out.tb
          obtain ⟨nt, At, ct, rfl⟩ : ∃ n A c, tv = .slice A n c := by obtain ⟨A, c, e, _⟩ := htv; exact ⟨_, A, c, e⟩
          have tb1 : w4.cell? ⟨w.heap.size + 1 + 1, 1, none⟩ = some (.slice At nt ct) := cell_cells htb 1
          have tb0 : w4.cell? ⟨w.heap.size + 1 + 1, 0, none⟩ = some (.slice none 0 0) := cell_cells htb 0
          have tz1 : w4.frozen? ⟨w.heap.size + 1 + 1, 1, none⟩ = false := frozen_cells htb 1
          have tz0 : w4.frozen? ⟨w.heap.size + 1 + 1, 0, none⟩ = false := frozen_cells htb 0
          go_upto_region 22 with fail
          have HF := Lib.hid (HI4.out.fin)
          clear db0 db1 db2 htb htv tb1 tb0 tz1 tz0
          have HE : Hid ((outL 4 K V l) = (actK l ((4 : Int), K, V)).1) := Lib.hid (by rw [← actO_is HD.out (by decide)]; unfold actO; rw [HLV.out]; rw [if_neg (fun h => absurd h.1 (by decide))])
          have HT : Hid ((actK l ((4 : Int), K, V)).2 = ([], [])) := Lib.hid (by have hl := HLV.out; rw [lastv_fnd HD.out] at hl; unfold actK; simp [hl, isT])
          rw [HE.out] at HF
          obtain ⟨n1, A1, c1, n2, A2, c2, htb, hb1, hb2⟩ := HF.out.tb
          have t0 : w4.cell? ⟨w.heap.size + 1 + 1, 0, none⟩ = some (.slice A1 n1 c1) := cell_cells htb 0
          have t1 : w4.cell? ⟨w.heap.size + 1 + 1, 1, none⟩ = some (.slice A2 n2 c2) := cell_cells htb 1
          have r0 : w4.cell? ⟨w.heap.size + 1, 0, none⟩ = some (.slice none 0 0) := cell_cells HF.out.rb 0
          have r1 : w4.cell? ⟨w.heap.size + 1, 1, none⟩ = some (.slice none 0 0) := cell_cells HF.out.rb 1
          have z0 : w4.frozen? ⟨w.heap.size + 1, 0, none⟩ = false := frozen_cells HF.out.rb 0
          have z1 : w4.frozen? ⟨w.heap.size + 1, 1, none⟩ = false := frozen_cells HF.out.rb 1
          have HB1 := Lib.hid hb1
          have HB2 := Lib.hid hb2
          clear htb hb1 hb2
          go_region
          obtain ⟨W9, hW9, a1, a2, a3, a4, a5⟩ := HF.out.last (by rw [← HE.out]; have h9 := outL_len (4 : Int) K V l; first | omega | (simp only [List.length_append, List.length_cons, List.length_nil]; omega)) HB1.out HB2.out
          rw [← hW9]
          clear hW9 t0 t1 r0 r1 z0 z1
          go_wp2
          exact bodyPost_ret (ac_results a1 rfl rfl rfl) rfl ⟨_, _, _, rfl, a2, by rw [HT.out]; exact a3, by rw [HT.out]; exact a4, a5⟩
      case some lv =>
        dsimp only [Option.isSome, Option.getD] at HI ⊢
        rcases (by omega : op = 0 ∨ op = 1 ∨ op = 2 ∨ op = 3 ∨ op = 4) with rfl | rfl | rfl | rfl | rfl
        · have db0 : wr.cell? ⟨w.heap.size, 0, none⟩ = some (.int .i64 0) := cell_cells HI.out.db 0
          have db1 : wr.cell? ⟨w.heap.size, 1, none⟩ = some (.slice Ak nk ck) := cell_cells HI.out.db 1
          have db2 : wr.cell? ⟨w.heap.size, 2, none⟩ = some (.slice Avv nvv cvv) := cell_cells HI.out.db 2
          obtain ⟨tv, htb, htv⟩ := HI.out.tb
          obtain ⟨nt, At, ct, rfl⟩ : ∃ n A c, tv = .slice A n c := by obtain ⟨A, c, e, _⟩ := htv; exact ⟨_, A, c, e⟩
          have tb1 : wr.cell? ⟨w.heap.size + 1 + 1, 1, none⟩ = some (.slice At nt ct) := cell_cells htb 1
          have tb0 : wr.cell? ⟨w.heap.size + 1 + 1, 0, none⟩ = some (.slice none 0 0) := cell_cells htb 0
          have tz1 : wr.frozen? ⟨w.heap.size + 1 + 1, 1, none⟩ = false := frozen_cells htb 1
          have tz0 : wr.frozen? ⟨w.heap.size + 1 + 1, 0, none⟩ = false := frozen_cells htb 0
          go_upto_region 20 with fail
          have HI4 := Lib.hid (HI.out.setv (Bv.nil w0))
          clear db0 db1 db2 htb htv tb1 tb0 tz1 tz0
          generalize wr.setCell ⟨w.heap.size + 1 + 1, 1, none⟩ (.slice none 0 0) = w4 at HI4 ⊢
          have db0 : w4.cell? ⟨w.heap.size, 0, none⟩ = some (.int .i64 0) := cell_cells HI4.out.db 0
          have db1 : w4.cell? ⟨w.heap.size, 1, none⟩ = some (.slice Ak nk ck) := cell_cells HI4.out.db 1
          have db2 : w4.cell? ⟨w.heap.size, 2, none⟩ = some (.slice Avv nvv cvv) := cell_cells HI4.out.db 2
          obtain ⟨tv, htb, htv⟩ := HI4.out.tb
          obtain ⟨nt, At, ct, rfl⟩ : ∃ n A c, tv = .slice A n c := by obtain ⟨A, c, e, _⟩ := htv; exact ⟨_, A, c, e⟩
          have tb1 : w4.cell? ⟨w.heap.size + 1 + 1, 1, none⟩ = some (.slice At nt ct) := cell_cells htb 1
          have tb0 : w4.cell? ⟨w.heap.size + 1 + 1, 0, none⟩ = some (.slice none 0 0) := cell_cells htb 0
          have tz1 : w4.frozen? ⟨w.heap.size + 1 + 1, 1, none⟩ = false := frozen_cells htb 1
          have tz0 : w4.frozen? ⟨w.heap.size + 1 + 1, 0, none⟩ = false := frozen_cells htb 0
          go_upto_region 22 with fail
          have HF := Lib.hid (HI4.out.fin)
          clear db0 db1 db2 htb htv tb1 tb0 tz1 tz0
          have HE : Hid ((outL 0 K V l) = (actK l ((0 : Int), K, V)).1) := Lib.hid (by rw [← actO_is HD.out (by decide)]; unfold actO; rw [HLV.out]; rw [if_neg (fun h => by cases h.2)])
          have HT : Hid ((actK l ((0 : Int), K, V)).2 = ([], [])) := Lib.hid (by have hl := HLV.out; rw [lastv_fnd HD.out] at hl; unfold actK; simp [hl, isT])
          rw [HE.out] at HF
          obtain ⟨n1, A1, c1, n2, A2, c2, htb, hb1, hb2⟩ := HF.out.tb
          have t0 : w4.cell? ⟨w.heap.size + 1 + 1, 0, none⟩ = some (.slice A1 n1 c1) := cell_cells htb 0
          have t1 : w4.cell? ⟨w.heap.size + 1 + 1, 1, none⟩ = some (.slice A2 n2 c2) := cell_cells htb 1
          have r0 : w4.cell? ⟨w.heap.size + 1, 0, none⟩ = some (.slice none 0 0) := cell_cells HF.out.rb 0
          have r1 : w4.cell? ⟨w.heap.size + 1, 1, none⟩ = some (.slice none 0 0) := cell_cells HF.out.rb 1
          have z0 : w4.frozen? ⟨w.heap.size + 1, 0, none⟩ = false := frozen_cells HF.out.rb 0
          have z1 : w4.frozen? ⟨w.heap.size + 1, 1, none⟩ = false := frozen_cells HF.out.rb 1
          have HB1 := Lib.hid hb1
          have HB2 := Lib.hid hb2
          clear htb hb1 hb2
          go_region
          obtain ⟨W9, hW9, a1, a2, a3, a4, a5⟩ := HF.out.last (by rw [← HE.out]; have h9 := outL_len (0 : Int) K V l; first | omega | (simp only [List.length_append, List.length_cons, List.length_nil]; omega)) HB1.out HB2.out
          rw [← hW9]
          clear hW9 t0 t1 r0 r1 z0 z1
          go_wp2
          exact bodyPost_ret (ac_results a1 rfl rfl rfl) rfl ⟨_, _, _, rfl, a2, by rw [HT.out]; exact a3, by rw [HT.out]; exact a4, a5⟩
        · have db0 : wr.cell? ⟨w.heap.size, 0, none⟩ = some (.int .i64 1) := cell_cells HI.out.db 0
          have db1 : wr.cell? ⟨w.heap.size, 1, none⟩ = some (.slice Ak nk ck) := cell_cells HI.out.db 1
          have db2 : wr.cell? ⟨w.heap.size, 2, none⟩ = some (.slice Avv nvv cvv) := cell_cells HI.out.db 2
          obtain ⟨tv, htb, htv⟩ := HI.out.tb
          obtain ⟨nt, At, ct, rfl⟩ : ∃ n A c, tv = .slice A n c := by obtain ⟨A, c, e, _⟩ := htv; exact ⟨_, A, c, e⟩
          have tb1 : wr.cell? ⟨w.heap.size + 1 + 1, 1, none⟩ = some (.slice At nt ct) := cell_cells htb 1
          have tb0 : wr.cell? ⟨w.heap.size + 1 + 1, 0, none⟩ = some (.slice none 0 0) := cell_cells htb 0
          have tz1 : wr.frozen? ⟨w.heap.size + 1 + 1, 1, none⟩ = false := frozen_cells htb 1
          have tz0 : wr.frozen? ⟨w.heap.size + 1 + 1, 0, none⟩ = false := frozen_cells htb 0
          go_upto_region 20 with fail
          have HI4 := Lib.hid (HI.out.setv (Bv.nil w0))
          clear db0 db1 db2 htb htv tb1 tb0 tz1 tz0
          generalize wr.setCell ⟨w.heap.size + 1 + 1, 1, none⟩ (.slice none 0 0) = w4 at HI4 ⊢
          have db0 : w4.cell? ⟨w.heap.size, 0, none⟩ = some (.int .i64 1) := cell_cells HI4.out.db 0
          have db1 : w4.cell? ⟨w.heap.size, 1, none⟩ = some (.slice Ak nk ck) := cell_cells HI4.out.db 1
          have db2 : w4.cell? ⟨w.heap.size, 2, none⟩ = some (.slice Avv nvv cvv) := cell_cells HI4.out.db 2
          obtain ⟨tv, htb, htv⟩ := HI4.out.tb
          obtain ⟨nt, At, ct, rfl⟩ : ∃ n A c, tv = .slice A n c := by obtain ⟨A, c, e, _⟩ := htv; exact ⟨_, A, c, e⟩
          have tb1 : w4.cell? ⟨w.heap.size + 1 + 1, 1, none⟩ = some (.slice At nt ct) := cell_cells htb 1
          have tb0 : w4.cell? ⟨w.heap.size + 1 + 1, 0, none⟩ = some (.slice none 0 0) := cell_cells htb 0
          have tz1 : w4.frozen? ⟨w.heap.size + 1 + 1, 1, none⟩ = false := frozen_cells htb 1
          have tz0 : w4.frozen? ⟨w.heap.size + 1 + 1, 0, none⟩ = false := frozen_cells htb 0
          go_upto_region 22 with fail
          have HF := Lib.hid (HI4.out.fin)
          clear db0 db1 db2 htb htv tb1 tb0 tz1 tz0
          have HE : Hid ((outL 1 K V l) = (actK l ((1 : Int), K, V)).1) := Lib.hid (by rw [← actO_is HD.out (by decide)]; unfold actO; rw [HLV.out]; rw [if_neg (fun h => absurd h.1 (by decide))])
          have HT : Hid ((actK l ((1 : Int), K, V)).2 = ([], [])) := Lib.hid (by have hl := HLV.out; rw [lastv_fnd HD.out] at hl; unfold actK; simp [hl, isT])
          rw [HE.out] at HF
          obtain ⟨n1, A1, c1, n2, A2, c2, htb, hb1, hb2⟩ := HF.out.tb
          have t0 : w4.cell? ⟨w.heap.size + 1 + 1, 0, none⟩ = some (.slice A1 n1 c1) := cell_cells htb 0
          have t1 : w4.cell? ⟨w.heap.size + 1 + 1, 1, none⟩ = some (.slice A2 n2 c2) := cell_cells htb 1
          have r0 : w4.cell? ⟨w.heap.size + 1, 0, none⟩ = some (.slice none 0 0) := cell_cells HF.out.rb 0
          have r1 : w4.cell? ⟨w.heap.size + 1, 1, none⟩ = some (.slice none 0 0) := cell_cells HF.out.rb 1
          have z0 : w4.frozen? ⟨w.heap.size + 1, 0, none⟩ = false := frozen_cells HF.out.rb 0
          have z1 : w4.frozen? ⟨w.heap.size + 1, 1, none⟩ = false := frozen_cells HF.out.rb 1
          have HB1 := Lib.hid hb1
          have HB2 := Lib.hid hb2
          clear htb hb1 hb2
          go_region
          obtain ⟨W9, hW9, a1, a2, a3, a4, a5⟩ := HF.out.last (by rw [← HE.out]; have h9 := outL_len (1 : Int) K V l; first | omega | (simp only [List.length_append, List.length_cons, List.length_nil]; omega)) HB1.out HB2.out
          rw [← hW9]
          clear hW9 t0 t1 r0 r1 z0 z1
          go_wp2
          exact bodyPost_ret (ac_results a1 rfl rfl rfl) rfl ⟨_, _, _, rfl, a2, by rw [HT.out]; exact a3, by rw [HT.out]; exact a4, a5⟩
        · have db0 : wr.cell? ⟨w.heap.size, 0, none⟩ = some (.int .i64 2) := cell_cells HI.out.db 0
          have db1 : wr.cell? ⟨w.heap.size, 1, none⟩ = some (.slice Ak nk ck) := cell_cells HI.out.db 1
          have db2 : wr.cell? ⟨w.heap.size, 2, none⟩ = some (.slice Avv nvv cvv) := cell_cells HI.out.db 2
          obtain ⟨tv, htb, htv⟩ := HI.out.tb
          obtain ⟨nt, At, ct, rfl⟩ : ∃ n A c, tv = .slice A n c := by obtain ⟨A, c, e, _⟩ := htv; exact ⟨_, A, c, e⟩
          have tb1 : wr.cell? ⟨w.heap.size + 1 + 1, 1, none⟩ = some (.slice At nt ct) := cell_cells htb 1
          have tb0 : wr.cell? ⟨w.heap.size + 1 + 1, 0, none⟩ = some (.slice none 0 0) := cell_cells htb 0
          have tz1 : wr.frozen? ⟨w.heap.size + 1 + 1, 1, none⟩ = false := frozen_cells htb 1
          have tz0 : wr.frozen? ⟨w.heap.size + 1 + 1, 0, none⟩ = false := frozen_cells htb 0
          have ta0 : (wr.alloc (Obj.cells #[.int .u8 49] 5)).cell? ⟨w.heap.size + 1 + 1, 0, none⟩ = some (.slice none 0 0) := cell_cells (((Le.refl wr).alloc (Obj.cells #[.int .u8 49] 5)).heap htb) 0
          have ta1 : (wr.alloc (Obj.cells #[.int .u8 49] 5)).frozen? ⟨w.heap.size + 1 + 1, 0, none⟩ = false := frozen_cells (((Le.refl wr).alloc (Obj.cells #[.int .u8 49] 5)).heap htb) 0
          go_upto_region 22 with fail
          have HF := Lib.hid (HI.out.fin1)
          clear ta0 ta1
          clear db0 db1 db2 htb htv tb1 tb0 tz1 tz0
          generalize (wr.alloc (Obj.cells #[.int .u8 49] 5)).setCell ⟨w.heap.size + 1 + 1, 0, none⟩ (.slice (some ⟨wr.heap.size, 0, none⟩) 1 1) = w7 at HF ⊢
          have HE : Hid ((outL 2 K V l) = (actK l ((2 : Int), K, V)).1) := Lib.hid (by rw [← actO_is HD.out (by decide)]; unfold actO; rw [HLV.out]; rw [if_neg (fun h => absurd h.1 (by decide))])
          have HT : Hid ((actK l ((2 : Int), K, V)).2 = ([49], lv)) := Lib.hid (by have hl := HLV.out; rw [lastv_fnd HD.out] at hl; unfold actK; simp [hl, isT])
          rw [HE.out] at HF
          obtain ⟨n1, A1, c1, n2, A2, c2, htb, hb1, hb2⟩ := HF.out.tb
          have t0 : w7.cell? ⟨w.heap.size + 1 + 1, 0, none⟩ = some (.slice A1 n1 c1) := cell_cells htb 0
          have t1 : w7.cell? ⟨w.heap.size + 1 + 1, 1, none⟩ = some (.slice A2 n2 c2) := cell_cells htb 1
          have r0 : w7.cell? ⟨w.heap.size + 1, 0, none⟩ = some (.slice none 0 0) := cell_cells HF.out.rb 0
          have r1 : w7.cell? ⟨w.heap.size + 1, 1, none⟩ = some (.slice none 0 0) := cell_cells HF.out.rb 1
          have z0 : w7.frozen? ⟨w.heap.size + 1, 0, none⟩ = false := frozen_cells HF.out.rb 0
          have z1 : w7.frozen? ⟨w.heap.size + 1, 1, none⟩ = false := frozen_cells HF.out.rb 1
          have HB1 := Lib.hid hb1
          have HB2 := Lib.hid hb2
          clear htb hb1 hb2
          go_region
          obtain ⟨W9, hW9, a1, a2, a3, a4, a5⟩ := HF.out.last (by rw [← HE.out]; have h9 := outL_len (2 : Int) K V l; first | omega | (simp only [List.length_append, List.length_cons, List.length_nil]; omega)) HB1.out HB2.out
          rw [← hW9]
          clear hW9 t0 t1 r0 r1 z0 z1
          go_wp2
          exact bodyPost_ret (ac_results a1 rfl rfl rfl) rfl ⟨_, _, _, rfl, a2, by rw [HT.out]; exact a3, by rw [HT.out]; exact a4, a5⟩
        · have db0 : wr.cell? ⟨w.heap.size, 0, none⟩ = some (.int .i64 3) := cell_cells HI.out.db 0
          have db1 : wr.cell? ⟨w.heap.size, 1, none⟩ = some (.slice Ak nk ck) := cell_cells HI.out.db 1
          have db2 : wr.cell? ⟨w.heap.size, 2, none⟩ = some (.slice Avv nvv cvv) := cell_cells HI.out.db 2
          obtain ⟨tv, htb, htv⟩ := HI.out.tb
          obtain ⟨nt, At, ct, rfl⟩ : ∃ n A c, tv = .slice A n c := by obtain ⟨A, c, e, _⟩ := htv; exact ⟨_, A, c, e⟩
          have tb1 : wr.cell? ⟨w.heap.size + 1 + 1, 1, none⟩ = some (.slice At nt ct) := cell_cells htb 1
          have tb0 : wr.cell? ⟨w.heap.size + 1 + 1, 0, none⟩ = some (.slice none 0 0) := cell_cells htb 0
          have tz1 : wr.frozen? ⟨w.heap.size + 1 + 1, 1, none⟩ = false := frozen_cells htb 1
          have tz0 : wr.frozen? ⟨w.heap.size + 1 + 1, 0, none⟩ = false := frozen_cells htb 0
          go_upto_region 22 with fail
          have HF := Lib.hid (HI.out.fin)
          clear db0 db1 db2 htb htv tb1 tb0 tz1 tz0
          have HE : Hid ((outL 3 K V l) = (actK l ((3 : Int), K, V)).1) := Lib.hid (by rw [← actO_is HD.out (by decide)]; unfold actO; rw [HLV.out]; rw [if_neg (fun h => absurd h.1 (by decide))])
          have HT : Hid ((actK l ((3 : Int), K, V)).2 = ([], lv)) := Lib.hid (by have hl := HLV.out; rw [lastv_fnd HD.out] at hl; unfold actK; simp [hl, isT])
          rw [HE.out] at HF
          obtain ⟨n1, A1, c1, n2, A2, c2, htb, hb1, hb2⟩ := HF.out.tb
          have t0 : wr.cell? ⟨w.heap.size + 1 + 1, 0, none⟩ = some (.slice A1 n1 c1) := cell_cells htb 0
          have t1 : wr.cell? ⟨w.heap.size + 1 + 1, 1, none⟩ = some (.slice A2 n2 c2) := cell_cells htb 1
          have r0 : wr.cell? ⟨w.heap.size + 1, 0, none⟩ = some (.slice none 0 0) := cell_cells HF.out.rb 0
          have r1 : wr.cell? ⟨w.heap.size + 1, 1, none⟩ = some (.slice none 0 0) := cell_cells HF.out.rb 1
          have z0 : wr.frozen? ⟨w.heap.size + 1, 0, none⟩ = false := frozen_cells HF.out.rb 0
          have z1 : wr.frozen? ⟨w.heap.size + 1, 1, none⟩ = false := frozen_cells HF.out.rb 1
          have HB1 := Lib.hid hb1
          have HB2 := Lib.hid hb2
          clear htb hb1 hb2
          go_region
          obtain ⟨W9, hW9, a1, a2, a3, a4, a5⟩ := HF.out.last (by rw [← HE.out]; have h9 := outL_len (3 : Int) K V l; first | omega | (simp only [List.length_append, List.length_cons, List.length_nil]; omega)) HB1.out HB2.out
          rw [← hW9]
          clear hW9 t0 t1 r0 r1 z0 z1
          go_wp2
          exact bodyPost_ret (ac_results a1 rfl rfl rfl) rfl ⟨_, _, _, rfl, a2, by rw [HT.out]; exact a3, by rw [HT.out]; exact a4, a5⟩
        · have db0 : wr.cell? ⟨w.heap.size, 0, none⟩ = some (.int .i64 4) := cell_cells HI.out.db 0
          have db1 : wr.cell? ⟨w.heap.size, 1, none⟩ = some (.slice Ak nk ck) := cell_cells HI.out.db 1
          have db2 : wr.cell? ⟨w.heap.size, 2, none⟩ = some (.slice Avv nvv cvv) := cell_cells HI.out.db 2
          obtain ⟨tv, htb, htv⟩ := HI.out.tb
          obtain ⟨nt, At, ct, rfl⟩ : ∃ n A c, tv = .slice A n c := by obtain ⟨A, c, e, _⟩ := htv; exact ⟨_, A, c, e⟩
          have tb1 : wr.cell? ⟨w.heap.size + 1 + 1, 1, none⟩ = some (.slice At nt ct) := cell_cells htb 1
          have tb0 : wr.cell? ⟨w.heap.size + 1 + 1, 0, none⟩ = some (.slice none 0 0) := cell_cells htb 0
          have tz1 : wr.frozen? ⟨w.heap.size + 1 + 1, 1, none⟩ = false := frozen_cells htb 1
          have tz0 : wr.frozen? ⟨w.heap.size + 1 + 1, 0, none⟩ = false := frozen_cells htb 0
          go_upto_region 20 with fail
          have HI4 := Lib.hid (HI.out.setv (Bv.nil w0))
          clear db0 db1 db2 htb htv tb1 tb0 tz1 tz0
          generalize wr.setCell ⟨w.heap.size + 1 + 1, 1, none⟩ (.slice none 0 0) = w4 at HI4 ⊢
          have db0 : w4.cell? ⟨w.heap.size, 0, none⟩ = some (.int .i64 4) := cell_cells HI4.out.db 0
          have db1 : w4.cell? ⟨w.heap.size, 1, none⟩ = some (.slice Ak nk ck) := cell_cells HI4.out.db 1
          have db2 : w4.cell? ⟨w.heap.size, 2, none⟩ = some (.slice Avv nvv cvv) := cell_cells HI4.out.db 2
          obtain ⟨tv, htb, htv⟩ := HI4.out.tb
          obtain ⟨nt, At, ct, rfl⟩ : ∃ n A c, tv = .slice A n c := by obtain ⟨A, c, e, _⟩ := htv; exact ⟨_, A, c, e⟩
          have tb1 : w4.cell? ⟨w.heap.size + 1 + 1, 1, none⟩ = some (.slice At nt ct) := cell_cells htb 1
          have tb0 : w4.cell? ⟨w.heap.size + 1 + 1, 0, none⟩ = some (.slice none 0 0) := cell_cells htb 0
          have tz1 : w4.frozen? ⟨w.heap.size + 1 + 1, 1, none⟩ = false := frozen_cells htb 1
          have tz0 : w4.frozen? ⟨w.heap.size + 1 + 1, 0, none⟩ = false := frozen_cells htb 0
          have ta0 : (w4.alloc (Obj.cells #[.int .u8 49] 5)).cell? ⟨w.heap.size + 1 + 1, 0, none⟩ = some (.slice none 0 0) := cell_cells (((Le.refl w4).alloc (Obj.cells #[.int .u8 49] 5)).heap htb) 0
          have ta1 : (w4.alloc (Obj.cells #[.int .u8 49] 5)).frozen? ⟨w.heap.size + 1 + 1, 0, none⟩ = false := frozen_cells (((Le.refl w4).alloc (Obj.cells #[.int .u8 49] 5)).heap htb) 0
          go_upto_region 22 with fail
          have HF := Lib.hid (HI4.out.fin1)
          clear ta0 ta1
          clear db0 db1 db2 htb htv tb1 tb0 tz1 tz0
          generalize (w4.alloc (Obj.cells #[.int .u8 49] 5)).setCell ⟨w.heap.size + 1 + 1, 0, none⟩ (.slice (some ⟨w4.heap.size, 0, none⟩) 1 1) = w7 at HF ⊢
          have HE : Hid ((outL 4 K V l) = (actK l ((4 : Int), K, V)).1) := Lib.hid (by rw [← actO_is HD.out (by decide)]; unfold actO; rw [HLV.out]; rw [if_neg (fun h => absurd h.1 (by decide))])
          have HT : Hid ((actK l ((4 : Int), K, V)).2 = ([49], [])) := Lib.hid (by have hl := HLV.out; rw [lastv_fnd HD.out] at hl; unfold actK; simp [hl, isT])
          rw [HE.out] at HF
          obtain ⟨n1, A1, c1, n2, A2, c2, htb, hb1, hb2⟩ := HF.out.tb
          have t0 : w7.cell? ⟨w.heap.size + 1 + 1, 0, none⟩ = some (.slice A1 n1 c1) := cell_cells htb 0
          have t1 : w7.cell? ⟨w.heap.size + 1 + 1, 1, none⟩ = some (.slice A2 n2 c2) := cell_cells htb 1
          have r0 : w7.cell? ⟨w.heap.size + 1, 0, none⟩ = some (.slice none 0 0) := cell_cells HF.out.rb 0
          have r1 : w7.cell? ⟨w.heap.size + 1, 1, none⟩ = some (.slice none 0 0) := cell_cells HF.out.rb 1
          have z0 : w7.frozen? ⟨w.heap.size + 1, 0, none⟩ = false := frozen_cells HF.out.rb 0
          have z1 : w7.frozen? ⟨w.heap.size + 1, 1, none⟩ = false := frozen_cells HF.out.rb 1
          have HB1 := Lib.hid hb1
          have HB2 := Lib.hid hb2
          clear htb hb1 hb2
          go_region
          obtain ⟨W9, hW9, a1, a2, a3, a4, a5⟩ := HF.out.last (by rw [← HE.out]; have h9 := outL_len (4 : Int) K V l; first | omega | (simp only [List.length_append, List.length_cons, List.length_nil]; omega)) HB1.out HB2.out
          rw [← hW9]
          clear hW9 t0 t1 r0 r1 z0 z1
          go_wp2
          exact bodyPost_ret (ac_results a1 rfl rfl rfl) rfl ⟨_, _, _, rfl, a2, by rw [HT.out]; exact a3, by rw [HT.out]; exact a4, a5⟩
end Go.Proofs.YtgelnjcjpkklbaaGreatDoor

