/- How the thin package's values lie in memory; contracts: pairs, Raw. -/
import Derived.Test.YtbdeohmdpkkpdaaGreatDoorPar
import Derived.Test.YtbdeohmdpkkpdaaGreatDoorGrow
set_option linter.unusedVariables false
set_option linter.unusedSimpArgs false
namespace Go.Proofs.YtbdeohmdpkkpdaaGreatDoor
open Go.RowKit

/-- a slice of bytes that reads as l, in a block that φ holds of -/
def Bq (φ : Nat → Prop) (w : World) (v : Value) (l : Tx) : Prop := Bv w v l ∧ ∀ g, v.ownBlock = some g → φ g
theorem Bq.bv {φ : Nat → Prop} {w : World} {v : Value} {l : Tx} (h : Bq φ w v l) : Bv w v l := h.1
theorem Bq.imp {φ ψ : Nat → Prop} {w : World} {v : Value} {l : Tx} (h : Bq φ w v l) (k : ∀ g, φ g → ψ g) : Bq ψ w v l := ⟨h.1, fun g hg => k g (h.2 g hg)⟩
theorem Bq.le {φ : Nat → Prop} {w w' : World} {v : Value} {l : Tx} (h : Bq φ w v l) (k : Le w w') : Bq φ w' v l := ⟨h.1.le k, h.2⟩
/-- what stands where φ holds is all that is looked at -/
theorem Bq.keep {φ : Nat → Prop} {w w' : World} {v : Value} {l : Tx} (h : Bq φ w v l) (k : ∀ g, φ g → g < w.heap.size → w'.heap[g]? = w.heap[g]?) : Bq φ w' v l := by
  obtain ⟨⟨A, c, rfl, h1, h2, h3, h4⟩, h5⟩ := h
  refine ⟨⟨A, c, rfl, h1, h2, h3, fun hn => ?_⟩, h5⟩
  obtain ⟨b, o, rfl, hc⟩ := h4 hn
  refine ⟨b, o, rfl, fun j hj => ?_⟩
  have h0 := hc j hj
  exact (World.cell?_of_block (a := ⟨b, o + j, none⟩) (k b (h5 b rfl) (lt_of_cell h0))).trans h0
theorem Bq.nil (φ : Nat → Prop) (w : World) : Bq φ w (.slice none 0 0) [] := ⟨Bv.nil w, by simp [Value.ownBlock]⟩
/-- a slice of pairs of the thin package that reads as l -/
def Kq (φ : Nat → Prop) (w : World) (v : Value) (l : KVs) : Prop :=
  ∃ A c, v = .slice A l.length c ∧ l.length ≤ c ∧ c ≤ 9223372036854775807 ∧ l.length ≤ 1099511627776 ∧
    (0 < l.length → ∃ g o, A = some ⟨g, o, none⟩ ∧ φ g ∧
      ∀ j (h : j < l.length), ∃ x y, w.cell? ⟨g, o + j * 2, none⟩ = some x ∧ w.cell? ⟨g, o + j * 2 + 1, none⟩ = some y ∧ Bq φ w x l[j].1 ∧ Bq φ w y l[j].2)
theorem Kq.keep {φ : Nat → Prop} {w w' : World} {v : Value} {l : KVs} (h : Kq φ w v l) (k : ∀ g, φ g → g < w.heap.size → w'.heap[g]? = w.heap[g]?) : Kq φ w' v l := by
  obtain ⟨A, c, e, h1, h2, h3, h4⟩ := h
  refine ⟨A, c, e, h1, h2, h3, fun hn => ?_⟩
  obtain ⟨g, o, e, hg, hc⟩ := h4 hn
  refine ⟨g, o, e, hg, fun j hj => ?_⟩
  obtain ⟨x, y, hx, hy, hx2, hy2⟩ := hc j hj
  have hk := k g hg (lt_of_cell hx)
  exact ⟨x, y, (World.cell?_of_block (a := ⟨g, o + j * 2, none⟩) hk).trans hx, (World.cell?_of_block (a := ⟨g, o + j * 2 + 1, none⟩) hk).trans hy, hx2.keep k, hy2.keep k⟩
theorem Kq.le {φ : Nat → Prop} {w w' : World} {v : Value} {l : KVs} (h : Kq φ w v l) (k : Le w w') : Kq φ w' v l := h.keep fun g _ hg => k.block g hg
theorem Kq.imp {φ ψ : Nat → Prop} {w : World} {v : Value} {l : KVs} (h : Kq φ w v l) (k : ∀ g, φ g → ψ g) : Kq ψ w v l := by
  obtain ⟨A, c, e, h1, h2, h3, h4⟩ := h
  refine ⟨A, c, e, h1, h2, h3, fun hn => ?_⟩
  obtain ⟨g, o, e, hg, hc⟩ := h4 hn
  refine ⟨g, o, e, k g hg, fun j hj => ?_⟩
  obtain ⟨x, y, hx, hy, hx2, hy2⟩ := hc j hj
  exact ⟨x, y, hx, hy, hx2.imp k, hy2.imp k⟩
theorem Kq.nil (φ : Nat → Prop) (w : World) : Kq φ w (.slice none 0 0) [] := ⟨none, 0, rfl, by simp, by simp, by simp, fun h => by simp at h⟩
/-- a URI of the thin package, as a value -/
structure UV where
  scheme : Value
  raw : Value
  wild : Bool
  slash : Bool
  user : Value
  pass : Value
  host : Value
  port : Int
  ps : Value
  hs : Value
def UV.val (x : UV) : Value := .agg #[x.scheme, x.raw, .bool x.wild, .bool x.slash, x.user, x.pass, x.host, .int .i64 x.port, x.ps, x.hs]
structure Uq (φ : Nat → Prop) (w : World) (x : UV) (u : PU) : Prop where
  scheme : Bq φ w x.scheme u.scheme
  raw : Bq φ w x.raw u.raw
  wild : x.wild = u.wild
  slash : x.slash = u.slash
  user : Bq φ w x.user u.user
  pass : Bq φ w x.pass u.pass
  host : Bq φ w x.host u.host
  port : x.port = u.port
  ps : Kq φ w x.ps u.ps
  hs : Kq φ w x.hs u.hs
theorem Uq.keep {φ : Nat → Prop} {w w' : World} {x : UV} {u : PU} (h : Uq φ w x u) (k : ∀ g, φ g → g < w.heap.size → w'.heap[g]? = w.heap[g]?) : Uq φ w' x u :=
  ⟨h.scheme.keep k, h.raw.keep k, h.wild, h.slash, h.user.keep k, h.pass.keep k, h.host.keep k, h.port, h.ps.keep k, h.hs.keep k⟩
theorem Uq.le {φ : Nat → Prop} {w w' : World} {x : UV} {u : PU} (h : Uq φ w x u) (k : Le w w') : Uq φ w' x u := h.keep fun g _ hg => k.block g hg
theorem Uq.imp {φ ψ : Nat → Prop} {w : World} {x : UV} {u : PU} (h : Uq φ w x u) (k : ∀ g, φ g → ψ g) : Uq ψ w x u :=
  ⟨h.scheme.imp k, h.raw.imp k, h.wild, h.slash, h.user.imp k, h.pass.imp k, h.host.imp k, h.port, h.ps.imp k, h.hs.imp k⟩

/-! ### pairs -/
theorem ikv_info : ((Tryz.prog).info? 47).map (fun i => (i.zero, i.size, i.bytes)) = some (some (.agg #[.slice none 0 0, .slice none 0 0]), 2, 48) := by kernel_rfl
/-- bytes in a block of bytes that lies above base -/
def Bt (base : Nat) (w : World) (v : Value) (l : Tx) : Prop := Bv w v l ∧ ∀ g, v.ownBlock = some g → base ≤ g ∧ ∃ cur fz, w.heap[g]? = some (.cells cur 5 fz)
theorem Bt.keep {base : Nat} {w w' : World} {v : Value} {l : Tx} (h : Bt base w v l) (k : ∀ (g : Nat) (cur : Array Value) (fz : Nat × Nat), w.heap[g]? = some (.cells cur 5 fz) → w'.heap[g]? = w.heap[g]?) : Bt base w' v l := by
  have h2 := (show Bq (fun g => ∃ cur fz, w.heap[g]? = some (.cells cur 5 fz)) w v l from ⟨h.1, fun g hg => (h.2 g hg).2⟩).keep (w' := w') (fun g ⟨cur, fz, hg⟩ _ => k g cur fz hg)
  exact ⟨h2.1, fun g hg => ⟨(h.2 g hg).1, by obtain ⟨cur, fz, e⟩ := (h.2 g hg).2; exact ⟨cur, fz, (k g cur fz e).trans e⟩⟩⟩
theorem Bt.le {base : Nat} {w w' : World} {v : Value} {l : Tx} (h : Bt base w v l) (k : Le w w') : Bt base w' v l := h.keep fun g _ _ hg => k.block g (lt_of_heap hg)
theorem bt_sb {base : Nat} (w : World) (s : ByteArray) (hb : base ≤ w.heap.size) (hs : s.size ≤ 140737488355328) : Bt base (Lib.bytesWorld w 5 s) (.slice (some ⟨w.heap.size, 0, none⟩) s.size (bcap w 5 s)) (bs s) :=
  ⟨bv_sb w _ s hs (bcap_le w _ s hs), fun g hg => by
    simp only [Value.ownBlock, Option.some.injEq] at hg
    subst hg
    exact ⟨hb, _, _, Lib.bytesWorld_at_new w _ s⟩⟩
theorem conv_mk {base : Nat} (w : World) (s : ByteArray) (hb : base ≤ w.heap.size) (hs : s.size ≤ 140737488355328) :
    ∃ B c W, (convert 9 22 (.string s)).run Tryz.prog w = .ok (.slice (some ⟨B, 0, none⟩) s.size c) W ∧ Le w W ∧ Bt base W (.slice (some ⟨B, 0, none⟩) s.size c) (bs s) :=
  ⟨_, _, _, conv_sb (P := Tryz.prog) (e := 5) Tryz.underlying9 Tryz.underlying22 Tryz.underlying5 s w, le_sb w _ s, bt_sb w s hb hs⟩
theorem own_le {w w' : World} {base : Nat} {e : TypeId} {size n : Nat} {v : Value} {xs : List Value} (h : w.ownsRow base e size v n xs) (k : Le w w') : w'.ownsRow base e size v n xs :=
  h.kept (row := none) ⟨k.os, k.tape, k.output, k.size, fun i hi _ => k.block i hi⟩ (Classical.em _)
theorem own_row' {w : World} {base : Nat} {E : TypeId} {size : Nat} {v : Value} {n : Nat} {xs : List Value} (h : w.ownsRow base E size v n xs) : ∀ g, v.ownBlock = some g → base ≤ g ∧ ∃ c fz, w.heap[g]? = some (.cells c E fz) := by
  intro g hg
  rcases h.2 with ⟨rfl, _⟩ | ⟨g', cap, cur, rfl, hb, hh, _⟩
  · simp [Value.ownBlock] at hg
  · simp only [Value.ownBlock, Option.some.injEq] at hg
    subst hg
    exact ⟨hb, cur, _, hh⟩
/-- .. behind an append to a row of the call's own -/
theorem Below.grown' {B : Nat} {u v w : World} {row : Option Nat} (h : Below B u v) (hg : v.grownBy w row) (hB : B ≤ u.heap.size) (hrow : ∀ g, row = some g → B ≤ g) : Below B u w :=
  ⟨hg.os.trans h.os, hg.tape.trans h.tape, hg.output.trans h.output, Nat.le_trans h.size hg.size, fun k hk => (hg.block k (by have := h.size; omega) (fun e => by have := hrow k e.symm; omega)).trans (h.block k hk)⟩
/-- the cells of a row of pairs -/
def KCells (base : Nat) (w : World) (xs : List Value) (l : KVs) : Prop :=
  ∀ j (h : j < l.length), ∃ x y, xs[j * 2]? = some x ∧ xs[j * 2 + 1]? = some y ∧ Bt base w x l[j].1 ∧ Bt base w y l[j].2
theorem KCells.keep {base : Nat} {w w' : World} {xs : List Value} {l : KVs} (h : KCells base w xs l) (k : ∀ (g : Nat) (cur : Array Value) (fz : Nat × Nat), w.heap[g]? = some (.cells cur 5 fz) → w'.heap[g]? = w.heap[g]?) : KCells base w' xs l := fun j hj => by
  obtain ⟨x, y, h1, h2, h3, h4⟩ := h j hj
  exact ⟨x, y, h1, h2, h3.keep k, h4.keep k⟩
theorem KCells.snoc {base : Nat} {w : World} {xs : List Value} {l : KVs} (h : KCells base w xs l) (hx : xs.length = l.length * 2) {x y : Value} {z : Tx × Tx} (h1 : Bt base w x z.1) (h2 : Bt base w y z.2) : KCells base w (xs ++ [x, y]) (l ++ [z]) := fun j hj => by
  by_cases hlt : j < l.length
  · obtain ⟨x', y', a1, a2, a3, a4⟩ := h j hlt
    refine ⟨x', y', ?_, ?_, ?_, ?_⟩
    · rw [List.getElem?_append_left (by omega)]; exact a1
    · rw [List.getElem?_append_left (by omega)]; exact a2
    · rw [List.getElem_append_left hlt]; exact a3
    · rw [List.getElem_append_left hlt]; exact a4
  · simp only [List.length_append, List.length_cons, List.length_nil] at hj
    obtain rfl : j = l.length := by omega
    refine ⟨x, y, ?_, ?_, ?_, ?_⟩
    · rw [List.getElem?_append_right (by omega), show l.length * 2 - xs.length = 0 from by omega]; rfl
    · rw [List.getElem?_append_right (by omega), show l.length * 2 + 1 - xs.length = 1 from by omega]; rfl
    · simpa using h1
    · simpa using h2
theorem Kq.of_own {base : Nat} {w : World} {v : Value} {xs : List Value} {l : KVs} (h : w.ownsRow base 47 2 v l.length xs) (k : KCells base w xs l) (hl : l.length ≤ 1099511627776) : Kq (base ≤ ·) w v l := by
  have h0 := h
  obtain ⟨_, h2⟩ := h
  rcases h2 with ⟨rfl, hn⟩ | ⟨g, cap, cur, rfl, hg, hh, hle, hm, hs, ht⟩
  · obtain rfl : l = [] := List.eq_nil_of_length_eq_zero hn
    exact Kq.nil _ w
  · unfold maxLen at hm
    refine ⟨_, _, rfl, hle, hm, hl, fun _ => ⟨g, 0, rfl, hg, fun j hj => ?_⟩⟩
    obtain ⟨x, y, a1, a2, a3, a4⟩ := k j hj
    have e1 : ∀ i, (⟨g, 0, none⟩ : Addr).add i = ⟨g, 0 + i, none⟩ := fun i => by unfold Addr.add; split <;> simp_all
    have b1 := h0.cells (g := g) rfl _ _ a1
    have b2 := h0.cells (g := g) rfl _ _ a2
    rw [e1] at b1 b2
    exact ⟨x, y, b1, b2, ⟨a3.1, fun g hg => (a3.2 g hg).1⟩, ⟨a4.1, fun g hg => (a4.2 g hg).1⟩⟩

set_option maxRecDepth 4000 in
set_option maxHeartbeats 2000000 in
theorem pairs_c (w : World) (v : Value) (l : KVs) (hv : Hp w v l) :
    Calls Tryz.prog 69 #[v] w fun e w' => ∃ v', e = .returned v' ∧ Kq (w.heap.size ≤ ·) w' v' l ∧ Le w w' := by
  obtain ⟨A, c, rfl, hc1, hc2, hl, hm, hr⟩ := hv
  have HM := Lib.hid hm
  clear hm
  go_enter Tryz.func69, Tryz.ntmps69
  go_wp2
  go_loopg [3, 8] (l.length) (fun n sv i wr => ∃ (k : Nat) (xs : List Value), n + k = l.length ∧ i = .int .i64 k ∧ Below w.heap.size w wr ∧ wr.ownsRow w.heap.size 47 2 sv k xs ∧ KCells w.heap.size wr xs (l.take k))
  case atStart => exact ⟨0, [], by omega, rfl, Le.refl w, World.ownsRow_nil _ _ _ _, fun j hj => by simp at hj⟩
  case round =>
    obtain ⟨k, xs, hn, rfl, hle, hown, hkc⟩ := hrel
    have HOWN := Lib.hid hown
    have HKC := Lib.hid hkc
    have HLE := Lib.hid hle
    have HN : gk + k ≤ l.length ∧ l.length ≤ gk + k := by omega
    clear hn hown hkc
    by_cases hlt : k < l.length
    · obtain ⟨g, o, rfl, hg, hcells⟩ := hr (by omega)
      have d1 := Le.cell hle (hcells k hlt).1
      have d2 := Le.cell hle (hcells k hlt).2
      clear hcells hg hr
      have hk1 := (HM.out l[k] (List.getElem_mem hlt)).1
      have hk2 := (HM.out l[k] (List.getElem_mem hlt)).2
      obtain ⟨B1, e1, W1, q1, le1, bt1⟩ := conv_mk (base := w.heap.size) (wr.alloc (Obj.cells #[.string (st l[k].1), .string (st l[k].2)] 164)) (st l[k].1) (by have := hle.size; simp; omega) (by rw [st_size]; omega)
      obtain ⟨B2, e2, W2, q2, le2, bt2⟩ := conv_mk (base := w.heap.size) W1 (st l[k].2) (by have := hle.size; have h3 := le1.size; simp at h3; omega) (by rw [st_size]; omega)
      have f1 : W1.cell? ⟨wr.heap.size, 1, none⟩ = some (.string (st l[k].2)) := le1.cell (cell_cells (heap_alloc_new wr _) 1)
      have HLE2 : Hid (Le wr W2) := Lib.hid ((((Le.refl wr).alloc _).trans le1).trans le2)
      have HB1 := Lib.hid (bt1.le le2)
      have HB2 := Lib.hid bt2
      have HSZ := Lib.hid (Nat.le_trans hle.size HLE2.out.size)
      have HOWN2 := Lib.hid (own_le HOWN.out HLE2.out)
      clear le1 le2 bt1 bt2 hle hk1 hk2
      obtain ⟨i0, hi0, hz0, hz1, hz2⟩ := info_parts ikv_info
      go_wp2_with (at_builtin; refine wpList_append_lies _ rfl _ _ 35 rfl w.heap.size 47 i0 (.agg #[.slice none 0 0, .slice none 0 0]) 2 48 Tryz.underlying35 hi0 hz0 hz1 hz2 rfl (by decide) _ _ _ rfl (HOWN2.out.alloc _) ⟨W2.heap.size, 0, none⟩ 1 1 [.slice (some ⟨B1, 0, none⟩) (st l[k].1).size e1, .slice (some ⟨B2, 0, none⟩) (st l[k].2).size e2] rfl rfl ?c1 ?c2 ?c3 ?c4 ?c5 ?c6 (W2.heap.size + 1) ?c7 ?_)
      case c1 => exact World.news_of_block (heap_alloc_new W2 _)
      case c2 => intro u hu; simp only [List.mem_cons, List.mem_nil_iff, or_false] at hu; rcases hu with rfl | rfl <;> rfl
      case c3 => omega
      case c4 => unfold maxLen; omega
      case c5 => omega
      case c6 => have := HSZ.out; simp; omega
      case c7 => simp
      intro g2 cap2 w2 hown2 hgrow2 hat2 hlt2
      have hrow := own_row' HOWN2.out
      have HLE3 : Hid (Le w w2) := Lib.hid (Below.grown' (Below.trans HLE.out ((HLE2.out.alloc _).mono HLE.out.size)) hgrow2 (Nat.le_refl _) (fun g hg => (hrow g hg).1))
      have hkeep : ∀ (g : Nat) (cur : Array Value) (fz : Nat × Nat), W2.heap[g]? = some (.cells cur 5 fz) → w2.heap[g]? = W2.heap[g]? := by
        intro g cur fz hg
        have hlt := lt_of_heap hg
        refine (hgrow2.block g (by simp; omega) ?_).trans (Below.heap_alloc _ _ _ hlt)
        intro e
        obtain ⟨_, c', fz', h⟩ := hrow g e.symm
        rw [hg] at h
        injection h with h
        injection h with _ h
        exact absurd h (by decide)
      have HKC2 := Lib.hid (((HKC.out.keep (w' := W2) (fun g _ _ hg => HLE2.out.block g (lt_of_heap hg))).snoc (by have := HOWN2.out.1; rw [this, List.length_take, Nat.min_eq_left (by omega)]) (by rw [bs_st] at HB1; exact HB1.out) (by rw [bs_st] at HB2; exact HB2.out) (z := l[k])).keep hkeep)
      have HT := Lib.hid (List.take_succ_eq_append_getElem hlt)
      have HOWN3 := Lib.hid hown2
      clear hown2 hgrow2 hat2 hlt2 hrow hkeep q1 q2 f1 d1 d2
      go_wp2
      go_roundg (gk - 1)
      case measure => omega
      case rel => exact ⟨k + 1, _, by omega, by go_num, HLE3.out, HOWN3.out, by rw [HT.out]; exact HKC2.out⟩
    · clear hr hle
      go_wp2
      go_ret
      refine ⟨_, rfl, ?_, HLE.out⟩
      have hk : l.take k = l := List.take_of_length_le (by omega)
      have h1 := HKC.out
      rw [hk] at h1
      have h2 := HOWN.out
      obtain rfl : k = l.length := by omega
      exact Kq.of_own h2 h1 hl
end Go.Proofs.YtbdeohmdpkkpdaaGreatDoor
