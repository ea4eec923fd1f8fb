/- How the thin package's values lie in memory; contracts: pairs, Raw. Contracts: Raw, place, the thin package's ParseUri. Contract: the thin package's ParseUri. -/
import Derived.Test.YtgpkfocgoigokaaGreatDoorPar
import Derived.Test.YtgpkfocgoigokaaGreatDoorGrow
import Derived.Test.YtgpkfocgoigokaaGreatDoorLaw
set_option linter.unusedVariables false
set_option linter.unusedSimpArgs false
namespace Go.Proofs.YtgpkfocgoigokaaGreatDoor
open Go.RowKit

/-- a slice of bytes that reads as l, in a block that φ holds of -/
def Bq (φ : Nat → Prop) (w : World) (v : Value) (l : Tx) : Prop := Bv w v l ∧ ∀ g, v.ownBlock = some g → φ g
theorem Bq.bv {φ : Nat → Prop} {w : World} {v : Value} {l : Tx} (h : Bq φ w v l) : Bv w v l := h.1
theorem Bq.imp {φ ψ : Nat → Prop} {w : World} {v : Value} {l : Tx} (h : Bq φ w v l) (k : ∀ g, φ g → ψ g) : Bq ψ w v l := ⟨h.1, fun g hg => k g (h.2 g hg)⟩
theorem Bq.le {φ : Nat → Prop} {w w' : World} {v : Value} {l : Tx} (h : Bq φ w v l) (k : Le w w') : Bq φ w' v l := ⟨h.1.le k, h.2⟩
/-- what stands where φ holds is all that is looked at -/
theorem Bq.keep {φ : Nat → Prop} {w w' : World} {v : Value} {l : Tx} (h : Bq φ w v l) (k : ∀ g, φ g → g < w.heap.size → w'.heap[g]? = w.heap[g]?) : Bq φ w' v l := by
  obtain ⟨⟨A, c, rfl, h1, h2, h3, h4⟩, h5⟩ := h
  refine ⟨⟨A, c, rfl, h1, h2, h3, fun hn => ?_⟩, h5⟩
  obtain ⟨b, o, rfl, hc⟩ := h4 hn
  refine ⟨b, o, rfl, fun j hj => ?_⟩
  have h0 := hc j hj
  exact (World.cell?_of_block (a := ⟨b, o + j, none⟩) (k b (h5 b rfl) (lt_of_cell h0))).trans h0
theorem Bq.nil (φ : Nat → Prop) (w : World) : Bq φ w (.slice none 0 0) [] := ⟨Bv.nil w, by simp [Value.ownBlock]⟩
/-- a slice of pairs of the thin package that reads as l -/
def Kq (φ : Nat → Prop) (w : World) (v : Value) (l : KVs) : Prop :=
  ∃ A c, v = .slice A l.length c ∧ l.length ≤ c ∧ c ≤ 9223372036854775807 ∧ l.length ≤ 1099511627776 ∧
    (0 < l.length → ∃ g o, A = some ⟨g, o, none⟩ ∧ φ g ∧
      ∀ j (h : j < l.length), ∃ x y, w.cell? ⟨g, o + j * 2, none⟩ = some x ∧ w.cell? ⟨g, o + j * 2 + 1, none⟩ = some y ∧ Bq φ w x l[j].1 ∧ Bq φ w y l[j].2)
theorem Kq.keep {φ : Nat → Prop} {w w' : World} {v : Value} {l : KVs} (h : Kq φ w v l) (k : ∀ g, φ g → g < w.heap.size → w'.heap[g]? = w.heap[g]?) : Kq φ w' v l := by
  obtain ⟨A, c, e, h1, h2, h3, h4⟩ := h
  refine ⟨A, c, e, h1, h2, h3, fun hn => ?_⟩
  obtain ⟨g, o, e, hg, hc⟩ := h4 hn
  refine ⟨g, o, e, hg, fun j hj => ?_⟩
  obtain ⟨x, y, hx, hy, hx2, hy2⟩ := hc j hj
  have hk := k g hg (lt_of_cell hx)
  exact ⟨x, y, (World.cell?_of_block (a := ⟨g, o + j * 2, none⟩) hk).trans hx, (World.cell?_of_block (a := ⟨g, o + j * 2 + 1, none⟩) hk).trans hy, hx2.keep k, hy2.keep k⟩
theorem Kq.le {φ : Nat → Prop} {w w' : World} {v : Value} {l : KVs} (h : Kq φ w v l) (k : Le w w') : Kq φ w' v l := h.keep fun g _ hg => k.block g hg
theorem Kq.imp {φ ψ : Nat → Prop} {w : World} {v : Value} {l : KVs} (h : Kq φ w v l) (k : ∀ g, φ g → ψ g) : Kq ψ w v l := by
  obtain ⟨A, c, e, h1, h2, h3, h4⟩ := h
  refine ⟨A, c, e, h1, h2, h3, fun hn => ?_⟩
  obtain ⟨g, o, e, hg, hc⟩ := h4 hn
  refine ⟨g, o, e, k g hg, fun j hj => ?_⟩
  obtain ⟨x, y, hx, hy, hx2, hy2⟩ := hc j hj
  exact ⟨x, y, hx, hy, hx2.imp k, hy2.imp k⟩
theorem Kq.nil (φ : Nat → Prop) (w : World) : Kq φ w (.slice none 0 0) [] := ⟨none, 0, rfl, by simp, by simp, by simp, fun h => by simp at h⟩
/-- a URI of the thin package, as a value -/
structure UV where
  scheme : Value
  raw : Value
  wild : Bool
  slash : Bool
  user : Value
  pass : Value
  host : Value
  port : Int
  ps : Value
  hs : Value
def UV.val (x : UV) : Value := .agg #[x.scheme, x.raw, .bool x.wild, .bool x.slash, x.user, x.pass, x.host, .int .i64 x.port, x.ps, x.hs]
structure Uq (φ : Nat → Prop) (w : World) (x : UV) (u : PU) : Prop where
  scheme : Bq φ w x.scheme u.scheme
  raw : Bq φ w x.raw u.raw
  wild : x.wild = u.wild
  slash : x.slash = u.slash
  user : Bq φ w x.user u.user
  pass : Bq φ w x.pass u.pass
  host : Bq φ w x.host u.host
  port : x.port = u.port
  ps : Kq φ w x.ps u.ps
  hs : Kq φ w x.hs u.hs
theorem Uq.keep {φ : Nat → Prop} {w w' : World} {x : UV} {u : PU} (h : Uq φ w x u) (k : ∀ g, φ g → g < w.heap.size → w'.heap[g]? = w.heap[g]?) : Uq φ w' x u :=
  ⟨h.scheme.keep k, h.raw.keep k, h.wild, h.slash, h.user.keep k, h.pass.keep k, h.host.keep k, h.port, h.ps.keep k, h.hs.keep k⟩
theorem Uq.le {φ : Nat → Prop} {w w' : World} {x : UV} {u : PU} (h : Uq φ w x u) (k : Le w w') : Uq φ w' x u := h.keep fun g _ hg => k.block g hg
theorem Uq.imp {φ ψ : Nat → Prop} {w : World} {x : UV} {u : PU} (h : Uq φ w x u) (k : ∀ g, φ g → ψ g) : Uq ψ w x u :=
  ⟨h.scheme.imp k, h.raw.imp k, h.wild, h.slash, h.user.imp k, h.pass.imp k, h.host.imp k, h.port, h.ps.imp k, h.hs.imp k⟩

/-! ### pairs -/
theorem ikv_info : ((Tryz.prog).info? 87).map (fun i => (i.zero, i.size, i.bytes)) = some (some (.agg #[.slice none 0 0, .slice none 0 0]), 2, 48) := by kernel_rfl
/-- bytes in a block of bytes that lies above base -/
def Bt (base : Nat) (w : World) (v : Value) (l : Tx) : Prop := Bv w v l ∧ ∀ g, v.ownBlock = some g → base ≤ g ∧ ∃ cur fz, w.heap[g]? = some (.cells cur 5 fz)
theorem Bt.keep {base : Nat} {w w' : World} {v : Value} {l : Tx} (h : Bt base w v l) (k : ∀ (g : Nat) (cur : Array Value) (fz : Nat × Nat), w.heap[g]? = some (.cells cur 5 fz) → w'.heap[g]? = w.heap[g]?) : Bt base w' v l := by
  have h2 := (show Bq (fun g => ∃ cur fz, w.heap[g]? = some (.cells cur 5 fz)) w v l from ⟨h.1, fun g hg => (h.2 g hg).2⟩).keep (w' := w') (fun g ⟨cur, fz, hg⟩ _ => k g cur fz hg)
  exact ⟨h2.1, fun g hg => ⟨(h.2 g hg).1, by obtain ⟨cur, fz, e⟩ := (h.2 g hg).2; exact ⟨cur, fz, (k g cur fz e).trans e⟩⟩⟩
theorem Bt.le {base : Nat} {w w' : World} {v : Value} {l : Tx} (h : Bt base w v l) (k : Le w w') : Bt base w' v l := h.keep fun g _ _ hg => k.block g (lt_of_heap hg)
theorem bt_sb {base : Nat} (w : World) (s : ByteArray) (hb : base ≤ w.heap.size) (hs : s.size ≤ 140737488355328) : Bt base (Lib.bytesWorld w 5 s) (.slice (some ⟨w.heap.size, 0, none⟩) s.size (bcap w 5 s)) (bs s) :=
  ⟨bv_sb w _ s hs (bcap_le w _ s hs), fun g hg => by
    simp only [Value.ownBlock, Option.some.injEq] at hg
    subst hg
    exact ⟨hb, _, _, Lib.bytesWorld_at_new w _ s⟩⟩
theorem conv_mk {base : Nat} (w : World) (s : ByteArray) (hb : base ≤ w.heap.size) (hs : s.size ≤ 140737488355328) :
    ∃ B c W, (convert 9 22 (.string s)).run Tryz.prog w = .ok (.slice (some ⟨B, 0, none⟩) s.size c) W ∧ Le w W ∧ Bt base W (.slice (some ⟨B, 0, none⟩) s.size c) (bs s) :=
  ⟨_, _, _, conv_sb (P := Tryz.prog) (e := 5) Tryz.underlying9 Tryz.underlying22 Tryz.underlying5 s w, le_sb w _ s, bt_sb w s hb hs⟩
theorem own_le {w w' : World} {base : Nat} {e : TypeId} {size n : Nat} {v : Value} {xs : List Value} (h : w.ownsRow base e size v n xs) (k : Le w w') : w'.ownsRow base e size v n xs :=
  h.kept (row := none) ⟨k.os, k.tape, k.output, k.size, fun i hi _ => k.block i hi⟩ (Classical.em _)
theorem own_row' {w : World} {base : Nat} {E : TypeId} {size : Nat} {v : Value} {n : Nat} {xs : List Value} (h : w.ownsRow base E size v n xs) : ∀ g, v.ownBlock = some g → base ≤ g ∧ ∃ c fz, w.heap[g]? = some (.cells c E fz) := by
  intro g hg
  rcases h.2 with ⟨rfl, _⟩ | ⟨g', cap, cur, rfl, hb, hh, _⟩
  · simp [Value.ownBlock] at hg
  · simp only [Value.ownBlock, Option.some.injEq] at hg
    subst hg
    exact ⟨hb, cur, _, hh⟩
/-- .. behind an append to a row of the call's own -/
theorem Below.grown' {B : Nat} {u v w : World} {row : Option Nat} (h : Below B u v) (hg : v.grownBy w row) (hB : B ≤ u.heap.size) (hrow : ∀ g, row = some g → B ≤ g) : Below B u w :=
  ⟨hg.os.trans h.os, hg.tape.trans h.tape, hg.output.trans h.output, Nat.le_trans h.size hg.size, fun k hk => (hg.block k (by have := h.size; omega) (fun e => by have := hrow k e.symm; omega)).trans (h.block k hk)⟩
/-- the cells of a row of pairs -/
def KCells (base : Nat) (w : World) (xs : List Value) (l : KVs) : Prop :=
  ∀ j (h : j < l.length), ∃ x y, xs[j * 2]? = some x ∧ xs[j * 2 + 1]? = some y ∧ Bt base w x l[j].1 ∧ Bt base w y l[j].2
theorem KCells.keep {base : Nat} {w w' : World} {xs : List Value} {l : KVs} (h : KCells base w xs l) (k : ∀ (g : Nat) (cur : Array Value) (fz : Nat × Nat), w.heap[g]? = some (.cells cur 5 fz) → w'.heap[g]? = w.heap[g]?) : KCells base w' xs l := fun j hj => by
  obtain ⟨x, y, h1, h2, h3, h4⟩ := h j hj
  exact ⟨x, y, h1, h2, h3.keep k, h4.keep k⟩
theorem KCells.snoc {base : Nat} {w : World} {xs : List Value} {l : KVs} (h : KCells base w xs l) (hx : xs.length = l.length * 2) {x y : Value} {z : Tx × Tx} (h1 : Bt base w x z.1) (h2 : Bt base w y z.2) : KCells base w (xs ++ [x, y]) (l ++ [z]) := fun j hj => by
  by_cases hlt : j < l.length
  · obtain ⟨x', y', a1, a2, a3, a4⟩ := h j hlt
    refine ⟨x', y', ?_, ?_, ?_, ?_⟩
    · rw [List.getElem?_append_left (by omega)]; exact a1
    · rw [List.getElem?_append_left (by omega)]; exact a2
    · rw [List.getElem_append_left hlt]; exact a3
    · rw [List.getElem_append_left hlt]; exact a4
  · simp only [List.length_append, List.length_cons, List.length_nil] at hj
    obtain rfl : j = l.length := by omega
    refine ⟨x, y, ?_, ?_, ?_, ?_⟩
    · rw [List.getElem?_append_right (by omega), show l.length * 2 - xs.length = 0 from by omega]; rfl
    · rw [List.getElem?_append_right (by omega), show l.length * 2 + 1 - xs.length = 1 from by omega]; rfl
    · simpa using h1
    · simpa using h2
theorem Kq.of_own {base : Nat} {w : World} {v : Value} {xs : List Value} {l : KVs} (h : w.ownsRow base 87 2 v l.length xs) (k : KCells base w xs l) (hl : l.length ≤ 1099511627776) : Kq (base ≤ ·) w v l := by
  have h0 := h
  obtain ⟨_, h2⟩ := h
  rcases h2 with ⟨rfl, hn⟩ | ⟨g, cap, cur, rfl, hg, hh, hle, hm, hs, ht⟩
  · obtain rfl : l = [] := List.eq_nil_of_length_eq_zero hn
    exact Kq.nil _ w
  · unfold maxLen at hm
    refine ⟨_, _, rfl, hle, hm, hl, fun _ => ⟨g, 0, rfl, hg, fun j hj => ?_⟩⟩
    obtain ⟨x, y, a1, a2, a3, a4⟩ := k j hj
    have e1 : ∀ i, (⟨g, 0, none⟩ : Addr).add i = ⟨g, 0 + i, none⟩ := fun i => by unfold Addr.add; split <;> simp_all
    have b1 := h0.cells (g := g) rfl _ _ a1
    have b2 := h0.cells (g := g) rfl _ _ a2
    rw [e1] at b1 b2
    exact ⟨x, y, b1, b2, ⟨a3.1, fun g hg => (a3.2 g hg).1⟩, ⟨a4.1, fun g hg => (a4.2 g hg).1⟩⟩

set_option maxRecDepth 4000 in
set_option maxHeartbeats 2000000 in
theorem pairs_c (w : World) (v : Value) (l : KVs) (hv : Hp w v l) :
    Calls Tryz.prog 25 #[v] w fun e w' => ∃ v', e = .returned v' ∧ Kq (w.heap.size ≤ ·) w' v' l ∧ Le w w' := by
  obtain ⟨A, c, rfl, hc1, hc2, hl, hm, hr⟩ := hv
  have HM := Lib.hid hm
  clear hm
  go_enter Tryz.func25, Tryz.ntmps25
  go_wp2
  go_loopg [3, 8] (l.length) (fun n sv i wr => ∃ (k : Nat) (xs : List Value), n + k = l.length ∧ i = .int .i64 k ∧ Below w.heap.size w wr ∧ wr.ownsRow w.heap.size 87 2 sv k xs ∧ KCells w.heap.size wr xs (l.take k))
  case atStart => exact ⟨0, [], by omega, rfl, Le.refl w, World.ownsRow_nil _ _ _ _, fun j hj => by simp at hj⟩
  case round =>
    obtain ⟨k, xs, hn, rfl, hle, hown, hkc⟩ := hrel
    have HOWN := Lib.hid hown
    have HKC := Lib.hid hkc
    have HLE := Lib.hid hle
    have HN : gk + k ≤ l.length ∧ l.length ≤ gk + k := by omega
    clear hn hown hkc
    by_cases hlt : k < l.length
    · obtain ⟨g, o, rfl, hg, hcells⟩ := hr (by omega)
      have d1 := Le.cell hle (hcells k hlt).1
      have d2 := Le.cell hle (hcells k hlt).2
      clear hcells hg hr
      have hk1 := (HM.out l[k] (List.getElem_mem hlt)).1
      have hk2 := (HM.out l[k] (List.getElem_mem hlt)).2
      obtain ⟨B1, e1, W1, q1, le1, bt1⟩ := conv_mk (base := w.heap.size) (wr.alloc (Obj.cells #[.string (st l[k].1), .string (st l[k].2)] 102)) (st l[k].1) (by have := hle.size; simp; omega) (by rw [st_size]; omega)
      obtain ⟨B2, e2, W2, q2, le2, bt2⟩ := conv_mk (base := w.heap.size) W1 (st l[k].2) (by have := hle.size; have h3 := le1.size; simp at h3; omega) (by rw [st_size]; omega)
      have f1 : W1.cell? ⟨wr.heap.size, 1, none⟩ = some (.string (st l[k].2)) := le1.cell (cell_cells (heap_alloc_new wr _) 1)
      have HLE2 : Hid (Le wr W2) := Lib.hid ((((Le.refl wr).alloc _).trans le1).trans le2)
      have HB1 := Lib.hid (bt1.le le2)
      have HB2 := Lib.hid bt2
      have HSZ := Lib.hid (Nat.le_trans hle.size HLE2.out.size)
      have HOWN2 := Lib.hid (own_le HOWN.out HLE2.out)
      clear le1 le2 bt1 bt2 hle hk1 hk2
      obtain ⟨i0, hi0, hz0, hz1, hz2⟩ := info_parts ikv_info
      go_wp2_with (at_builtin; refine wpList_append_lies _ rfl _ _ 30 rfl w.heap.size 87 i0 (.agg #[.slice none 0 0, .slice none 0 0]) 2 48 Tryz.underlying30 hi0 hz0 hz1 hz2 rfl (by decide) _ _ _ rfl (HOWN2.out.alloc _) ⟨W2.heap.size, 0, none⟩ 1 1 [.slice (some ⟨B1, 0, none⟩) (st l[k].1).size e1, .slice (some ⟨B2, 0, none⟩) (st l[k].2).size e2] rfl rfl ?c1 ?c2 ?c3 ?c4 ?c5 ?c6 (W2.heap.size + 1) ?c7 ?_)
      case c1 => exact World.news_of_block (heap_alloc_new W2 _)
      case c2 => intro u hu; simp only [List.mem_cons, List.mem_nil_iff, or_false] at hu; rcases hu with rfl | rfl <;> rfl
      case c3 => omega
      case c4 => unfold maxLen; omega
      case c5 => omega
      case c6 => have := HSZ.out; simp; omega
      case c7 => simp
      intro g2 cap2 w2 hown2 hgrow2 hat2 hlt2
      have hrow := own_row' HOWN2.out
      have HLE3 : Hid (Le w w2) := Lib.hid (Below.grown' (Below.trans HLE.out ((HLE2.out.alloc _).mono HLE.out.size)) hgrow2 (Nat.le_refl _) (fun g hg => (hrow g hg).1))
      have hkeep : ∀ (g : Nat) (cur : Array Value) (fz : Nat × Nat), W2.heap[g]? = some (.cells cur 5 fz) → w2.heap[g]? = W2.heap[g]? := by
        intro g cur fz hg
        have hlt := lt_of_heap hg
        refine (hgrow2.block g (by simp; omega) ?_).trans (Below.heap_alloc _ _ _ hlt)
        intro e
        obtain ⟨_, c', fz', h⟩ := hrow g e.symm
        rw [hg] at h
        injection h with h
        injection h with _ h
        exact absurd h (by decide)
      have HKC2 := Lib.hid (((HKC.out.keep (w' := W2) (fun g _ _ hg => HLE2.out.block g (lt_of_heap hg))).snoc (by have := HOWN2.out.1; rw [this, List.length_take, Nat.min_eq_left (by omega)]) (by rw [bs_st] at HB1; exact HB1.out) (by rw [bs_st] at HB2; exact HB2.out) (z := l[k])).keep hkeep)
      have HT := Lib.hid (List.take_succ_eq_append_getElem hlt)
      have HOWN3 := Lib.hid hown2
      clear hown2 hgrow2 hat2 hlt2 hrow hkeep q1 q2 f1 d1 d2
      go_wp2
      go_roundg (gk - 1)
      case measure => omega
      case rel => exact ⟨k + 1, _, by omega, by go_num, HLE3.out, HOWN3.out, by rw [HT.out]; exact HKC2.out⟩
    · clear hr hle
      go_wp2
      go_ret
      refine ⟨_, rfl, ?_, HLE.out⟩
      have hk : l.take k = l := List.take_of_length_le (by omega)
      have h1 := HKC.out
      rw [hk] at h1
      have h2 := HOWN.out
      obtain rfl : k = l.length := by omega
      exact Kq.of_own h2 h1 hl
end Go.Proofs.YtgpkfocgoigokaaGreatDoor
set_option linter.unusedVariables false
set_option linter.unusedSimpArgs false
namespace Go.Proofs.YtgpkfocgoigokaaGreatDoor
open Go.RowKit

theorem raw_c (w : World) (b : Nat) (s : ByteArray) (h : w.cell? ⟨b, 1, none⟩ = some (.string s)) :
    Calls Tryz.prog 24 #[.pointer (some ⟨b, 0, none⟩)] w fun e w' => e = .returned (.string s) ∧ w' = w := by
  go_enter Tryz.func24, Tryz.ntmps24
  go_wp2
  go_ret
  exact ⟨rfl, rfl⟩

def UV.row (x : UV) : Array Value := #[x.scheme, x.raw, .bool x.wild, .bool x.slash, x.user, x.pass, x.host, .int .i64 x.port, x.ps, x.hs]
theorem Bq.one {φ : Nat → Prop} {w : World} {v : Value} {l : Tx} (h : Bq φ w v l) : v.oneCell' = true := by obtain ⟨⟨A, c, rfl, _⟩, _⟩ := h; rfl
theorem Kq.one {φ : Nat → Prop} {w : World} {v : Value} {l : KVs} (h : Kq φ w v l) : v.oneCell' = true := by obtain ⟨A, c, rfl, _⟩ := h; rfl
theorem Uq.one {φ : Nat → Prop} {w : World} {x : UV} {u : PU} (h : Uq φ w x u) : x.row.all (·.oneCell') = true := by
  unfold UV.row
  simp only [List.all_toArray, List.all_cons, List.all_nil, h.scheme.one, h.raw.one, h.user.one, h.pass.one, h.host.one, h.ps.one, h.hs.one, Bool.and_true, Bool.true_and]
  rfl
theorem uri_size : ((Tryz.prog).info? 32).map (·.size) = some 10 := by kernel_rfl
theorem kp_setRow (w : World) (g : Nat) (cs : Array Value) : Kp g w (w.setRow g cs) := ⟨rfl, rfl, rfl, by simp, fun k _ hb => setRow_other w g k cs (fun e => hb (by rw [e]))⟩
/-- what is known of place's slots: b is the argument's block, b + 1 the result's -/
def plS (b : Nat) (u : PU) (pv hv : Value) : Nat → Value → World → Prop
  | 1, v, _ => v = .pointer (some ⟨b, 0, none⟩)
  | 2, v, _ => v = .pointer (some ⟨b + 1, 0, none⟩)
  | 3, v, _ => v = .pointer (some ⟨b, 0, none⟩)
  | 4, v, _ => v = .string (st u.scheme)
  | 5, v, w => Bq (b + 2 ≤ ·) w v u.scheme
  | 6, v, _ => v = .string (st u.raw)
  | 7, v, w => Bq (b + 2 ≤ ·) w v u.raw
  | 8, v, _ => v = .pointer (some ⟨b, 2, none⟩)
  | 9, v, _ => v = .bool u.wild
  | 10, v, _ => v = .pointer (some ⟨b, 3, none⟩)
  | 11, v, _ => v = .bool u.slash
  | 12, v, _ => v = .pointer (some ⟨b, 4, none⟩)
  | 13, v, _ => v = .string (st u.user)
  | 14, v, w => Bq (b + 2 ≤ ·) w v u.user
  | 15, v, _ => v = .pointer (some ⟨b, 5, none⟩)
  | 16, v, _ => v = .string (st u.pass)
  | 17, v, w => Bq (b + 2 ≤ ·) w v u.pass
  | 18, v, _ => v = .pointer (some ⟨b, 6, none⟩)
  | 19, v, _ => v = .string (st u.host)
  | 20, v, w => Bq (b + 2 ≤ ·) w v u.host
  | 21, v, _ => v = .pointer (some ⟨b, 7, none⟩)
  | 22, v, _ => v = .int .i64 u.port
  | 23, v, _ => v = .pointer (some ⟨b, 8, none⟩)
  | 24, v, _ => v = pv
  | 25, v, w => Kq (b + 2 ≤ ·) w v u.ps
  | 26, v, _ => v = .pointer (some ⟨b, 9, none⟩)
  | 27, v, _ => v = hv
  | 28, v, w => Kq (b + 2 ≤ ·) w v u.hs
  | 29, v, w => ∃ x : UV, v = x.val ∧ Uq (b + 2 ≤ ·) w x u
  | _, _, _ => True
theorem plS_le (b : Nat) (u : PU) (pv hv : Value) (t : Nat) (v : Value) (w w' : World) (k : Le w w') (h : plS b u pv hv t v w) : plS b u pv hv t v w' := by
  unfold plS at h ⊢
  split at h <;> first | exact h | exact h.le k | skip
  · obtain ⟨x, e, h⟩ := h; exact ⟨x, e, h.le k⟩
theorem plS_far (b : Nat) (u : PU) (pv hv : Value) (t : Nat) (v : Value) (w w' : World) (k : ∀ g, b + 2 ≤ g → g < w.heap.size → w'.heap[g]? = w.heap[g]?) (h : plS b u pv hv t v w) : plS b u pv hv t v w' := by
  unfold plS at h ⊢
  split at h <;> first | exact h | exact h.keep k | skip
  · obtain ⟨x, e, h⟩ := h; exact ⟨x, e, h.keep k⟩
def plZ (b : Nat) (u : PU) (j : Nat) (w : World) : Prop := ∃ x : UV, w.heap[b + 1]? = some (.cells #[x.scheme, x.raw, .bool x.wild, .bool x.slash, x.user, x.pass, x.host, .int .i64 x.port, x.ps, x.hs] 32 (0, 0)) ∧ Uq (b + 2 ≤ ·) w x u
theorem plZ_le (b : Nat) (u : PU) (j : Nat) (w w' : World) (k : Le w w') (h : plZ b u j w) : plZ b u j w' := by
  obtain ⟨x, e, h⟩ := h; exact ⟨x, k.heap e, h.le k⟩
/-- the block of the argument lies there -/
def plG (w0 : World) (b : Nat) (u : PU) (pv hv : Value) (w : World) : Prop :=
  Kp (b + 1) w0 w ∧ w.heap[b]? = some (.cells (u.cells pv hv) 49 (0, 0)) ∧ (∃ cs, cs.size = 10 ∧ w.heap[b + 1]? = some (.cells cs 32 (0, 0)))
theorem plG_le {w0 : World} {b : Nat} {u : PU} {pv hv : Value} (w w' : World) (k : Le w w') (h : plG w0 b u pv hv w) : plG w0 b u pv hv w' := by
  obtain ⟨h1, h2, cs, h3, h4⟩ := h
  exact ⟨h1.le k, k.heap h2, cs, h3, k.heap h4⟩

theorem plG_sz {w0 : World} {b : Nat} {u : PU} {pv hv : Value} {w : World} (h : plG w0 b u pv hv w) : b + 2 ≤ w.heap.size := by
  obtain ⟨_, _, cs, _, h4⟩ := h
  have := lt_of_heap h4
  omega

set_option maxHeartbeats 4000000 in
theorem place_c (w : World) (u : PU) (pv hv : Value) (hp : Hp w pv u.ps) (hh : Hp w hv u.hs) (sm : u.small) :
    Calls Tryz.prog 16 #[.agg (u.cells pv hv)] w fun e w' => ∃ x : UV, e = .returned x.val ∧ Uq (w.heap.size ≤ ·) w' x u ∧ Le w w' := by
  have HP := Lib.hid hp
  have HH := Lib.hid hh
  have HS := Lib.hid sm
  clear hp hh sm
  go_enter Tryz.func16, Tryz.ntmps16
  go_wp2
  have hSl := plS_le w.heap.size u pv hv
  have hZl := plZ_le w.heap.size u
  have hGl := plG_le (w0 := (w.alloc (Obj.cells (u.cells pv hv) 49)).alloc (Obj.cells #[.slice none 0 0, .slice none 0 0, .bool false, .bool false, .slice none 0 0, .slice none 0 0, .slice none 0 0, .int .i64 0, .slice none 0 0, .slice none 0 0] 32)) (b := w.heap.size) (u := u) (pv := pv) (hv := hv)
  have hm : (Tryz.prog).follows .mixedOrders = true := by kernel_rfl
  refine wp_region_grow (plS w.heap.size u pv hv) (plZ w.heap.size u) (plG ((w.alloc (Obj.cells (u.cells pv hv) 49)).alloc (Obj.cells #[.slice none 0 0, .slice none 0 0, .bool false, .bool false, .slice none 0 0, .slice none 0 0, .slice none 0 0, .int .i64 0, .slice none 0 0, .slice none 0 0] 32)) w.heap.size u pv hv) 30 hm (by kernel_rfl) rfl rfl ?hG [0, 1, 2] (by kernel_rfl) ?hold ?hs ?hend
  case hG =>
    exact ⟨(Kp.refl _ _).le (Le.refl _).drew, heap_alloc2_old w _ _, _, by rfl, heap_alloc2_new w _ _⟩
  case hold =>
    intro t ht
    simp only [List.mem_cons, List.mem_nil_iff, or_false] at ht
    rcases ht with rfl | rfl | rfl
    · exact trivial
    · rfl
    · rfl
  case hs =>
    refine ⟨?_, ?_, ?_, ?_, ?_, ?_, ?_, ?_, ?_, ?_, ?_, ?_, ?_, ?_, ?_, ?_, ?_, ?_, ?_, ?_, ?_, ?_, ?_, ?_, ?_, ?_, ?_, ?_, trivial⟩
    · refine GrowStep.det ?_
      intro a W hg hop
      have h1 : a.eval (.tmp 1) = .pointer (some ⟨w.heap.size, 0, none⟩) := hop 1 (by simp [Op.operands, Call.operands])
      refine ⟨.pointer (some ⟨w.heap.size, 0, none⟩), ?_, rfl⟩
      simp only [execOp, h1]
      go_simp
    · refine GrowStep.det ?_
      intro a W hg hop
      have h1 : a.eval (.tmp 3) = .pointer (some ⟨w.heap.size, 0, none⟩) := hop 3 (by simp [Op.operands, Call.operands])
      have h2 : W.cell? ⟨w.heap.size, 0, none⟩ = some (.string (st u.scheme)) := cell_cells hg.2.1 0
      refine ⟨.string (st u.scheme), ?_, rfl⟩
      simp only [execOp, h1]
      go_simp
    · refine GrowStep.le ?_ ?_ ?_ ?_
      · exact hSl
      · exact hZl
      · exact hGl
      intro a W hg hop
      have h1 : a.eval (.tmp 4) = .string (st u.scheme) := hop 4 (by simp [Op.operands, Call.operands])
      obtain ⟨B, c, W1, q, le1, bt⟩ := conv_mk (base := w.heap.size + 2) W (st u.scheme) (plG_sz hg) (by have := HS.out; unfold PU.small at this; rw [st_size]; omega)
      rw [bs_st] at bt
      refine ⟨_, W1, ?_, le1, ⟨bt.1, fun g h => (bt.2 g h).1⟩⟩
      simp only [execOp, h1]
      go_simp
    · refine GrowStep.call ?_ ?_ ?_ ?_
      · exact hSl
      · exact hZl
      · exact hGl
      intro a W hg hop
      have h1 : a.eval (.tmp 1) = .pointer (some ⟨w.heap.size, 0, none⟩) := hop 1 (by simp [Op.operands, Call.operands])
      have h1' : a.tmps[1]?.getD undef = .pointer (some ⟨w.heap.size, 0, none⟩) := by simpa [Act.eval] using h1
      have h2 : W.cell? ⟨w.heap.size, 1, none⟩ = some (.string (st u.raw)) := cell_cells hg.2.1 1
      refine ⟨24, #[.pointer (some ⟨w.heap.size, 0, none⟩)], ?_, (raw_c W _ _ h2).mono ?_⟩
      · simp only [execOp, h1]
        go_simp
      · rintro e w' ⟨rfl, rfl⟩
        exact ⟨_, rfl, Le.refl _, rfl⟩
    · refine GrowStep.le ?_ ?_ ?_ ?_
      · exact hSl
      · exact hZl
      · exact hGl
      intro a W hg hop
      have h1 : a.eval (.tmp 6) = .string (st u.raw) := hop 6 (by simp [Op.operands, Call.operands])
      obtain ⟨B, c, W1, q, le1, bt⟩ := conv_mk (base := w.heap.size + 2) W (st u.raw) (plG_sz hg) (by have := HS.out; unfold PU.small at this; rw [st_size]; omega)
      rw [bs_st] at bt
      refine ⟨_, W1, ?_, le1, ⟨bt.1, fun g h => (bt.2 g h).1⟩⟩
      simp only [execOp, h1]
      go_simp
    · refine GrowStep.det ?_
      intro a W hg hop
      have h1 : a.eval (.tmp 1) = .pointer (some ⟨w.heap.size, 0, none⟩) := hop 1 (by simp [Op.operands, Call.operands])
      refine ⟨.pointer (some ⟨w.heap.size, 2, none⟩), ?_, rfl⟩
      simp only [execOp, h1]
      go_simp
    · refine GrowStep.det ?_
      intro a W hg hop
      have h1 : a.eval (.tmp 8) = .pointer (some ⟨w.heap.size, 2, none⟩) := hop 8 (by simp [Op.operands, Call.operands])
      have h2 : W.cell? ⟨w.heap.size, 2, none⟩ = some (.bool u.wild) := cell_cells hg.2.1 2
      refine ⟨.bool u.wild, ?_, rfl⟩
      simp only [execOp, h1]
      go_simp
    · refine GrowStep.det ?_
      intro a W hg hop
      have h1 : a.eval (.tmp 1) = .pointer (some ⟨w.heap.size, 0, none⟩) := hop 1 (by simp [Op.operands, Call.operands])
      refine ⟨.pointer (some ⟨w.heap.size, 3, none⟩), ?_, rfl⟩
      simp only [execOp, h1]
      go_simp
    · refine GrowStep.det ?_
      intro a W hg hop
      have h1 : a.eval (.tmp 10) = .pointer (some ⟨w.heap.size, 3, none⟩) := hop 10 (by simp [Op.operands, Call.operands])
      have h2 : W.cell? ⟨w.heap.size, 3, none⟩ = some (.bool u.slash) := cell_cells hg.2.1 3
      refine ⟨.bool u.slash, ?_, rfl⟩
      simp only [execOp, h1]
      go_simp
    · refine GrowStep.det ?_
      intro a W hg hop
      have h1 : a.eval (.tmp 1) = .pointer (some ⟨w.heap.size, 0, none⟩) := hop 1 (by simp [Op.operands, Call.operands])
      refine ⟨.pointer (some ⟨w.heap.size, 4, none⟩), ?_, rfl⟩
      simp only [execOp, h1]
      go_simp
    · refine GrowStep.det ?_
      intro a W hg hop
      have h1 : a.eval (.tmp 12) = .pointer (some ⟨w.heap.size, 4, none⟩) := hop 12 (by simp [Op.operands, Call.operands])
      have h2 : W.cell? ⟨w.heap.size, 4, none⟩ = some (.string (st u.user)) := cell_cells hg.2.1 4
      refine ⟨.string (st u.user), ?_, rfl⟩
      simp only [execOp, h1]
      go_simp
    · refine GrowStep.le ?_ ?_ ?_ ?_
      · exact hSl
      · exact hZl
      · exact hGl
      intro a W hg hop
      have h1 : a.eval (.tmp 13) = .string (st u.user) := hop 13 (by simp [Op.operands, Call.operands])
      obtain ⟨B, c, W1, q, le1, bt⟩ := conv_mk (base := w.heap.size + 2) W (st u.user) (plG_sz hg) (by have := HS.out; unfold PU.small at this; rw [st_size]; omega)
      rw [bs_st] at bt
      refine ⟨_, W1, ?_, le1, ⟨bt.1, fun g h => (bt.2 g h).1⟩⟩
      simp only [execOp, h1]
      go_simp
    · refine GrowStep.det ?_
      intro a W hg hop
      have h1 : a.eval (.tmp 1) = .pointer (some ⟨w.heap.size, 0, none⟩) := hop 1 (by simp [Op.operands, Call.operands])
      refine ⟨.pointer (some ⟨w.heap.size, 5, none⟩), ?_, rfl⟩
      simp only [execOp, h1]
      go_simp
    · refine GrowStep.det ?_
      intro a W hg hop
      have h1 : a.eval (.tmp 15) = .pointer (some ⟨w.heap.size, 5, none⟩) := hop 15 (by simp [Op.operands, Call.operands])
      have h2 : W.cell? ⟨w.heap.size, 5, none⟩ = some (.string (st u.pass)) := cell_cells hg.2.1 5
      refine ⟨.string (st u.pass), ?_, rfl⟩
      simp only [execOp, h1]
      go_simp
    · refine GrowStep.le ?_ ?_ ?_ ?_
      · exact hSl
      · exact hZl
      · exact hGl
      intro a W hg hop
      have h1 : a.eval (.tmp 16) = .string (st u.pass) := hop 16 (by simp [Op.operands, Call.operands])
      obtain ⟨B, c, W1, q, le1, bt⟩ := conv_mk (base := w.heap.size + 2) W (st u.pass) (plG_sz hg) (by have := HS.out; unfold PU.small at this; rw [st_size]; omega)
      rw [bs_st] at bt
      refine ⟨_, W1, ?_, le1, ⟨bt.1, fun g h => (bt.2 g h).1⟩⟩
      simp only [execOp, h1]
      go_simp
    · refine GrowStep.det ?_
      intro a W hg hop
      have h1 : a.eval (.tmp 1) = .pointer (some ⟨w.heap.size, 0, none⟩) := hop 1 (by simp [Op.operands, Call.operands])
      refine ⟨.pointer (some ⟨w.heap.size, 6, none⟩), ?_, rfl⟩
      simp only [execOp, h1]
      go_simp
    · refine GrowStep.det ?_
      intro a W hg hop
      have h1 : a.eval (.tmp 18) = .pointer (some ⟨w.heap.size, 6, none⟩) := hop 18 (by simp [Op.operands, Call.operands])
      have h2 : W.cell? ⟨w.heap.size, 6, none⟩ = some (.string (st u.host)) := cell_cells hg.2.1 6
      refine ⟨.string (st u.host), ?_, rfl⟩
      simp only [execOp, h1]
      go_simp
    · refine GrowStep.le ?_ ?_ ?_ ?_
      · exact hSl
      · exact hZl
      · exact hGl
      intro a W hg hop
      have h1 : a.eval (.tmp 19) = .string (st u.host) := hop 19 (by simp [Op.operands, Call.operands])
      obtain ⟨B, c, W1, q, le1, bt⟩ := conv_mk (base := w.heap.size + 2) W (st u.host) (plG_sz hg) (by have := HS.out; unfold PU.small at this; rw [st_size]; omega)
      rw [bs_st] at bt
      refine ⟨_, W1, ?_, le1, ⟨bt.1, fun g h => (bt.2 g h).1⟩⟩
      simp only [execOp, h1]
      go_simp
    · refine GrowStep.det ?_
      intro a W hg hop
      have h1 : a.eval (.tmp 1) = .pointer (some ⟨w.heap.size, 0, none⟩) := hop 1 (by simp [Op.operands, Call.operands])
      refine ⟨.pointer (some ⟨w.heap.size, 7, none⟩), ?_, rfl⟩
      simp only [execOp, h1]
      go_simp
    · refine GrowStep.det ?_
      intro a W hg hop
      have h1 : a.eval (.tmp 21) = .pointer (some ⟨w.heap.size, 7, none⟩) := hop 21 (by simp [Op.operands, Call.operands])
      have h2 : W.cell? ⟨w.heap.size, 7, none⟩ = some (.int .i64 u.port) := cell_cells hg.2.1 7
      refine ⟨.int .i64 u.port, ?_, rfl⟩
      simp only [execOp, h1]
      go_simp
    · refine GrowStep.det ?_
      intro a W hg hop
      have h1 : a.eval (.tmp 1) = .pointer (some ⟨w.heap.size, 0, none⟩) := hop 1 (by simp [Op.operands, Call.operands])
      refine ⟨.pointer (some ⟨w.heap.size, 8, none⟩), ?_, rfl⟩
      simp only [execOp, h1]
      go_simp
    · refine GrowStep.det ?_
      intro a W hg hop
      have h1 : a.eval (.tmp 23) = .pointer (some ⟨w.heap.size, 8, none⟩) := hop 23 (by simp [Op.operands, Call.operands])
      have h2 : W.cell? ⟨w.heap.size, 8, none⟩ = some (pv) := cell_cells hg.2.1 8
      refine ⟨pv, ?_, rfl⟩
      simp only [execOp, h1]
      go_simp
    · refine GrowStep.call ?_ ?_ ?_ ?_
      · exact hSl
      · exact hZl
      · exact hGl
      intro a W hg hop
      have h1 : a.eval (.tmp 24) = pv := hop 24 (by simp [Op.operands, Call.operands])
      have h1' : a.tmps[24]?.getD undef = pv := by simpa [Act.eval] using h1
      refine ⟨25, #[pv], ?_, (pairs_c W pv u.ps (HP.out.of_blocks ?_)).mono ?_⟩
      · simp only [execOp, h1]
        go_simp
      · intro g cur fz hgg
        have hlt := lt_of_heap hgg
        exact (hg.1.block g (by simp; omega) (by intro e; injection e with e; omega)).trans ((Below.heap_alloc _ _ _ (by simp; omega)).trans (Below.heap_alloc _ _ _ hlt))
      · rintro e w' ⟨v', rfl, hk, hle⟩
        exact ⟨v', rfl, hle, hk.imp fun g h => Nat.le_trans (plG_sz hg) h⟩
    · refine GrowStep.det ?_
      intro a W hg hop
      have h1 : a.eval (.tmp 1) = .pointer (some ⟨w.heap.size, 0, none⟩) := hop 1 (by simp [Op.operands, Call.operands])
      refine ⟨.pointer (some ⟨w.heap.size, 9, none⟩), ?_, rfl⟩
      simp only [execOp, h1]
      go_simp
    · refine GrowStep.det ?_
      intro a W hg hop
      have h1 : a.eval (.tmp 26) = .pointer (some ⟨w.heap.size, 9, none⟩) := hop 26 (by simp [Op.operands, Call.operands])
      have h2 : W.cell? ⟨w.heap.size, 9, none⟩ = some (hv) := cell_cells hg.2.1 9
      refine ⟨hv, ?_, rfl⟩
      simp only [execOp, h1]
      go_simp
    · refine GrowStep.call ?_ ?_ ?_ ?_
      · exact hSl
      · exact hZl
      · exact hGl
      intro a W hg hop
      have h1 : a.eval (.tmp 27) = hv := hop 27 (by simp [Op.operands, Call.operands])
      have h1' : a.tmps[27]?.getD undef = hv := by simpa [Act.eval] using h1
      refine ⟨25, #[hv], ?_, (pairs_c W hv u.hs (HH.out.of_blocks ?_)).mono ?_⟩
      · simp only [execOp, h1]
        go_simp
      · intro g cur fz hgg
        have hlt := lt_of_heap hgg
        exact (hg.1.block g (by simp; omega) (by intro e; injection e with e; omega)).trans ((Below.heap_alloc _ _ _ (by simp; omega)).trans (Below.heap_alloc _ _ _ hlt))
      · rintro e w' ⟨v', rfl, hk, hle⟩
        exact ⟨v', rfl, hle, hk.imp fun g h => Nat.le_trans (plG_sz hg) h⟩
    · refine GrowStep.det ?_
      intro a W hg hop
      have k5 : Bq (w.heap.size + 2 ≤ ·) W (a.eval (.tmp 5)) u.scheme := hop 5 (by simp [Op.operands, Call.operands])
      have k7 : Bq (w.heap.size + 2 ≤ ·) W (a.eval (.tmp 7)) u.raw := hop 7 (by simp [Op.operands, Call.operands])
      have k9 : a.eval (.tmp 9) = .bool u.wild := hop 9 (by simp [Op.operands, Call.operands])
      have k11 : a.eval (.tmp 11) = .bool u.slash := hop 11 (by simp [Op.operands, Call.operands])
      have k14 : Bq (w.heap.size + 2 ≤ ·) W (a.eval (.tmp 14)) u.user := hop 14 (by simp [Op.operands, Call.operands])
      have k17 : Bq (w.heap.size + 2 ≤ ·) W (a.eval (.tmp 17)) u.pass := hop 17 (by simp [Op.operands, Call.operands])
      have k20 : Bq (w.heap.size + 2 ≤ ·) W (a.eval (.tmp 20)) u.host := hop 20 (by simp [Op.operands, Call.operands])
      have k22 : a.eval (.tmp 22) = .int .i64 u.port := hop 22 (by simp [Op.operands, Call.operands])
      have k25 : Kq (w.heap.size + 2 ≤ ·) W (a.eval (.tmp 25)) u.ps := hop 25 (by simp [Op.operands, Call.operands])
      have k28 : Kq (w.heap.size + 2 ≤ ·) W (a.eval (.tmp 28)) u.hs := hop 28 (by simp [Op.operands, Call.operands])
      obtain ⟨A5, n5, c5, e5⟩ : ∃ A n c, a.eval (.tmp 5) = .slice A n c := by obtain ⟨⟨A, c, e, _⟩, _⟩ := k5; exact ⟨A, _, c, e⟩
      rw [e5] at k5
      have d5 : a.tmps[5]?.getD undef = .slice A5 n5 c5 := by simpa [Act.eval] using e5
      obtain ⟨A7, n7, c7, e7⟩ : ∃ A n c, a.eval (.tmp 7) = .slice A n c := by obtain ⟨⟨A, c, e, _⟩, _⟩ := k7; exact ⟨A, _, c, e⟩
      rw [e7] at k7
      have d7 : a.tmps[7]?.getD undef = .slice A7 n7 c7 := by simpa [Act.eval] using e7
      obtain ⟨A14, n14, c14, e14⟩ : ∃ A n c, a.eval (.tmp 14) = .slice A n c := by obtain ⟨⟨A, c, e, _⟩, _⟩ := k14; exact ⟨A, _, c, e⟩
      rw [e14] at k14
      have d14 : a.tmps[14]?.getD undef = .slice A14 n14 c14 := by simpa [Act.eval] using e14
      obtain ⟨A17, n17, c17, e17⟩ : ∃ A n c, a.eval (.tmp 17) = .slice A n c := by obtain ⟨⟨A, c, e, _⟩, _⟩ := k17; exact ⟨A, _, c, e⟩
      rw [e17] at k17
      have d17 : a.tmps[17]?.getD undef = .slice A17 n17 c17 := by simpa [Act.eval] using e17
      obtain ⟨A20, n20, c20, e20⟩ : ∃ A n c, a.eval (.tmp 20) = .slice A n c := by obtain ⟨⟨A, c, e, _⟩, _⟩ := k20; exact ⟨A, _, c, e⟩
      rw [e20] at k20
      have d20 : a.tmps[20]?.getD undef = .slice A20 n20 c20 := by simpa [Act.eval] using e20
      obtain ⟨A25, n25, c25, e25⟩ : ∃ A n c, a.eval (.tmp 25) = .slice A n c := by obtain ⟨A, c, e, _⟩ := k25; exact ⟨A, _, c, e⟩
      rw [e25] at k25
      have d25 : a.tmps[25]?.getD undef = .slice A25 n25 c25 := by simpa [Act.eval] using e25
      obtain ⟨A28, n28, c28, e28⟩ : ∃ A n c, a.eval (.tmp 28) = .slice A n c := by obtain ⟨A, c, e, _⟩ := k28; exact ⟨A, _, c, e⟩
      rw [e28] at k28
      have d28 : a.tmps[28]?.getD undef = .slice A28 n28 c28 := by simpa [Act.eval] using e28
      have d9 : a.tmps[9]?.getD undef = .bool u.wild := by simpa [Act.eval] using k9
      have d11 : a.tmps[11]?.getD undef = .bool u.slash := by simpa [Act.eval] using k11
      have d22 : a.tmps[22]?.getD undef = .int .i64 u.port := by simpa [Act.eval] using k22
      refine ⟨_, ?_, ⟨⟨.slice A5 n5 c5, .slice A7 n7 c7, u.wild, u.slash, .slice A14 n14 c14, .slice A17 n17 c17, .slice A20 n20 c20, u.port, .slice A25 n25 c25, .slice A28 n28 c28⟩, rfl, ⟨k5, k7, rfl, rfl, k14, k17, k20, rfl, k25, k28⟩⟩⟩
      clear k5 k7 k9 k11 k14 k17 k20 k22 k25 k28 e5 e7 e14 e17 e20 e25 e28
      simp only [execOp]
      go_simp
      rfl
    · refine GrowStep.store ?_ rfl
      intro a W hg hop
      have h1 : a.eval (.tmp 2) = .pointer (some ⟨w.heap.size + 1, 0, none⟩) := hop 2 (by simp [Op.operands])
      obtain ⟨x, h2, hx⟩ : ∃ x : UV, a.eval (.tmp 29) = x.val ∧ Uq (w.heap.size + 2 ≤ ·) W x u := hop 29 (by simp [Op.operands])
      obtain ⟨h3, h4, cs, h5, h6⟩ := hg
      have hk := kp_setRow W (w.heap.size + 1) x.row
      have hfar : ∀ g, w.heap.size + 2 ≤ g → g < W.heap.size → (W.setRow (w.heap.size + 1) x.row).heap[g]? = W.heap[g]? := fun g hg _ => setRow_other W _ g _ (by omega)
      refine ⟨W.setRow (w.heap.size + 1) x.row, ?_, ⟨h3.trans hk, (setRow_other W _ _ _ (by omega)).trans h4, x.row, rfl, setRow_heap W _ _ _ _ _ h6⟩, fun t v hv => plS_far _ _ _ _ t v W _ hfar hv, ?_, x, setRow_heap W _ _ _ _ _ h6, hx.keep hfar⟩
      · have hs := run_storeVar_row (P := Tryz.prog) W (w.heap.size + 1) 32 32 cs x.row h6 uri_size h5 hx.one
        simp only [execOp, h1, h2, UV.val, Instr.storeAt, Instr.sureAddr, Sem.run_bind, Sem.run_pure, Result.andThen]
        rw [show #[x.scheme, x.raw, .bool x.wild, .bool x.slash, x.user, x.pass, x.host, .int .i64 x.port, x.ps, x.hs] = x.row from rfl, hs]
      · intro j _ ⟨y, e1, e2⟩
        exact ⟨x, setRow_heap W _ _ _ _ _ h6, hx.keep hfar⟩
  case hend =>
    intro a' w' hg hd hn hS hZ
    obtain ⟨x, hx1, hx2⟩ := hZ 27 _ rfl rfl
    have h2 : a'.eval (.tmp 2) = .pointer (some ⟨w.heap.size + 1, 0, none⟩) := hS 2 (by decide)
    have HG := Lib.hid hg
    clear hS hZ hg
    go_wp2
    refine bodyPost_ret (results_cell_row rfl _ _ (w.heap.size + 1) 32 _ (0, 0) _ h2 hx1 Tryz.underlying32 rfl uri_size) hd ?_
    refine ⟨x, rfl, hx2.imp fun g h => by omega, ?_⟩
    refine ⟨HG.out.1.os, HG.out.1.tape, HG.out.1.output, by have := HG.out.1.size; simp at this; omega, fun k hk => ?_⟩
    exact (HG.out.1.block k (by simp; omega) (by intro e; injection e with e; omega)).trans ((Below.heap_alloc _ _ _ (by simp; omega)).trans (Below.heap_alloc _ _ _ hk))
end Go.Proofs.YtgpkfocgoigokaaGreatDoor
set_option linter.unusedVariables false
set_option linter.unusedSimpArgs false
namespace Go.Proofs.YtgpkfocgoigokaaGreatDoor
open Go.RowKit

theorem sip_size : ((Tryz.prog).info? 49).map (·.size) = some 10 := by kernel_rfl
theorem loadAt_row {P : Program} {w : World} {g : Nat} {t ty : TypeId} {cs : Array Value} {fr : Nat × Nat} {d : TypeDesc} (hg : w.heap[g]? = some (.cells cs t fr)) (hu : P.underlying ty = some d)
    (hd : (match d with | .struct _ | .array _ _ => true | _ => false) = true) (hi : (P.info? ty).map (·.size) = some cs.size) : (Instr.loadAt ty (.pointer (some ⟨g, 0, none⟩))).run P w = .ok (.agg cs) w := by
  simp only [Instr.loadAt, Instr.sureAddr, Sem.run_bind, Sem.run_pure, Result.andThen]
  exact run_loadVar_row w g t ty cs fr d hg hu hd hi

/-- what is known of the slots: b is the result's block, b + 1 the URI's -/
def ipS (b : Nat) (r : PU) (pv hv ev : Value) (ok : Bool) : Nat → Value → World → Prop
  | 2, v, _ => v = .pointer (some ⟨b, 0, none⟩)
  | 3, v, _ => v = .bool ok
  | 4, v, _ => v = .pointer (some ⟨b + 1, 0, none⟩)
  | 5, v, _ => v = ev
  | 9, v, _ => v = .agg (r.cells pv hv)
  | 10, v, w => ∃ x : UV, v = x.val ∧ Uq (b + 2 ≤ ·) w x r
  | 11, v, _ => v = ev
  | 12, v, _ => v = .bool ok
  | _, _, _ => True
theorem ipS_far (b : Nat) (r : PU) (pv hv ev : Value) (ok : Bool) (t : Nat) (v : Value) (w w' : World) (k : ∀ g, b + 2 ≤ g → g < w.heap.size → w'.heap[g]? = w.heap[g]?) (h : ipS b r pv hv ev ok t v w) : ipS b r pv hv ev ok t v w' := by
  unfold ipS at h ⊢
  split at h <;> first | exact h | skip
  · obtain ⟨x, e, h⟩ := h; exact ⟨x, e, h.keep k⟩
def ipZ (b : Nat) (r : PU) (j : Nat) (w : World) : Prop := ∃ x : UV, w.heap[b]? = some (.cells x.row 32 (0, 0)) ∧ Uq (b + 2 ≤ ·) w x r
def ipG (w0 : World) (b : Nat) (r : PU) (pv hv : Value) (w : World) : Prop :=
  Kp b w0 w ∧ w.heap[b + 1]? = some (.cells (r.cells pv hv) 49 (0, 0)) ∧ (∃ cs, cs.size = 10 ∧ w.heap[b]? = some (.cells cs 32 (0, 0))) ∧ Hp w pv r.ps ∧ Hp w hv r.hs
theorem ipG_le {w0 : World} {b : Nat} {r : PU} {pv hv : Value} (w w' : World) (k : Le w w') (h : ipG w0 b r pv hv w) : ipG w0 b r pv hv w' := by
  obtain ⟨h1, h2, ⟨cs, h3, h4⟩, h5, h6⟩ := h
  exact ⟨h1.le k, k.heap h2, ⟨cs, h3, k.heap h4⟩, h5.le k, h6.le k⟩

/-- what the thin package's ParseUri leaves -/
def IParse (l : Tx) (w : World) (e : Ending) (w' : World) : Prop :=
  Le w w' ∧ ∃ (x : UV) (ok : Bool) (r : PU), e = .returned (.tuple #[x.val, .bool ok]) ∧ Uq (w.heap.size ≤ ·) w' x r ∧ PTop l PU.zero (if ok = true then some r else none)

set_option maxRecDepth 4000 in
set_option maxHeartbeats 4000000 in
theorem iparse_c (w : World) (v : Value) (l : Tx) (hv : Bv w v l) (hl : l.length ≤ 1099511627000) (hL : Laid w) :
    Calls Tryz.prog 9 #[v] w (IParse l w) := by
  have hcv := fun w' (k : Le w w') => conv_bs (P := Tryz.prog) Tryz.underlying22 Tryz.underlying5 Tryz.underlying9 (hv.le k)
  have HLAID := Lib.hid hL
  obtain ⟨A, c, rfl, _⟩ := hv
  have hc1 := hcv ((w.alloc (Obj.cells #[.slice none 0 0, .slice none 0 0, .bool false, .bool false, .slice none 0 0, .slice none 0 0, .slice none 0 0, .int .i64 0, .slice none 0 0, .slice none 0 0] 32)).alloc (Obj.cells #[.string ⟨#[]⟩, .string ⟨#[]⟩, .bool false, .bool false, .string ⟨#[]⟩, .string ⟨#[]⟩, .string ⟨#[]⟩, .int .i64 0, .slice none 0 0, .slice none 0 0] 49)) (((Le.refl w).alloc _).alloc _)
  clear hcv hL
  go_enter Tryz.func9, Tryz.ntmps9
  go_wp2_with fail
  have hle1 : Le w ((w.alloc (Obj.cells #[.slice none 0 0, .slice none 0 0, .bool false, .bool false, .slice none 0 0, .slice none 0 0, .slice none 0 0, .int .i64 0, .slice none 0 0, .slice none 0 0] 32)).alloc (Obj.cells #[.string ⟨#[]⟩, .string ⟨#[]⟩, .bool false, .bool false, .string ⟨#[]⟩, .string ⟨#[]⟩, .string ⟨#[]⟩, .int .i64 0, .slice none 0 0, .slice none 0 0] 49)) := ((Le.refl w).alloc _).alloc _
  have hua1 : UAt ((w.alloc (Obj.cells #[.slice none 0 0, .slice none 0 0, .bool false, .bool false, .slice none 0 0, .slice none 0 0, .slice none 0 0, .int .i64 0, .slice none 0 0, .slice none 0 0] 32)).alloc (Obj.cells #[.string ⟨#[]⟩, .string ⟨#[]⟩, .bool false, .bool false, .string ⟨#[]⟩, .string ⟨#[]⟩, .string ⟨#[]⟩, .int .i64 0, .slice none 0 0, .slice none 0 0] 49)) (w.heap.size + 1) PU.zero := ⟨.slice none 0 0, .slice none 0 0, heap_alloc2_new w _ _, Hp.nil _, Hp.nil _, by unfold PU.small PU.zero; simp⟩
  have hres1 : ((w.alloc (Obj.cells #[.slice none 0 0, .slice none 0 0, .bool false, .bool false, .slice none 0 0, .slice none 0 0, .slice none 0 0, .int .i64 0, .slice none 0 0, .slice none 0 0] 32)).alloc (Obj.cells #[.string ⟨#[]⟩, .string ⟨#[]⟩, .bool false, .bool false, .string ⟨#[]⟩, .string ⟨#[]⟩, .string ⟨#[]⟩, .int .i64 0, .slice none 0 0, .slice none 0 0] 49)).heap[w.heap.size]? = some (Obj.cells #[.slice none 0 0, .slice none 0 0, .bool false, .bool false, .slice none 0 0, .slice none 0 0, .slice none 0 0, .int .i64 0, .slice none 0 0, .slice none 0 0] 32) := heap_alloc2_old w _ _
  have HRES1 := Lib.hid hres1
  have HLE1 := Lib.hid hle1
  have hlu : LaidU (w.heap.size + 1) ((w.alloc (Obj.cells #[.slice none 0 0, .slice none 0 0, .bool false, .bool false, .slice none 0 0, .slice none 0 0, .slice none 0 0, .int .i64 0, .slice none 0 0, .slice none 0 0] 32)).alloc (Obj.cells #[.string ⟨#[]⟩, .string ⟨#[]⟩, .bool false, .bool false, .string ⟨#[]⟩, .string ⟨#[]⟩, .string ⟨#[]⟩, .int .i64 0, .slice none 0 0, .slice none 0 0] 49)) := ⟨w, HLAID.out, hle1, by omega⟩
  refine (sip_c (st l) (w.heap.size + 1) PU.zero _ hua1 (by rw [st_size]; exact hl) hlu).mono ?_
  rw [bs_st]
  rintro e w2 ⟨hkp2, hor⟩
  have HLE2 : Hid (Le w w2) := Lib.hid (Below.trans hle1 ((hkp2.below (B := w.heap.size) (by omega) hle1.size)))
  have HRES2 := Lib.hid (hkp2.heap (by omega) hres1)
  clear hres1 hle1 hlu hua1 hkp2
  obtain ⟨ev, ok, r, rfl, hq, hua2, hpt⟩ : ∃ ev ok r, e = .returned ev ∧ (∀ w, (binOp .eql 51 ev .nilIface).run Tryz.prog w = .ok (.bool ok) w ∧ (eqGuard .eql 51 (.tmp 11) (.const .nilIface) ev .nilIface).run Tryz.prog w = .ok () w) ∧ UAt w2 (w.heap.size + 1) r ∧ PTop l PU.zero (if ok = true then some r else none) := by
    rcases hor with ⟨v, h1, rfl, h3⟩ | ⟨h1, T, a, v, rfl, h3⟩
    · exact ⟨_, true, v, rfl, fun w => ⟨by go_simp, by go_simp⟩, h3, h1⟩
    · exact ⟨_, false, v, rfl, fun w => ⟨by go_simp, by go_simp⟩, h3, h1⟩
  clear hor
  obtain ⟨pv, hv, hb, hp, hh, hsm⟩ := hua2
  have HB := Lib.hid hb
  have HP := Lib.hid hp
  have HH := Lib.hid hh
  have HSM := Lib.hid hsm
  have HPT := Lib.hid hpt
  have HQ := Lib.hid hq
  have hbl := lt_of_heap hb
  clear hb hp hh hsm hpt hq
  go_wp2
  have hm : (Tryz.prog).follows .mixedOrders = true := by kernel_rfl
  have hgl := ipG_le (w0 := w2) (b := w.heap.size) (r := r) (pv := pv) (hv := hv)
  refine wp_region_grow (ipS w.heap.size r pv hv ev ok) (ipZ w.heap.size r) (ipG w2 w.heap.size r pv hv) 13 hm (by kernel_rfl) rfl rfl ?hG [0, 1, 2, 4, 5, 6, 7, 8] (by kernel_rfl) ?hold ?hs ?hend
  case hG => exact ⟨(Kp.refl _ _).le (Le.refl _).drew, HB.out, ⟨_, rfl, HRES2.out⟩, HP.out.le (Le.refl _).drew, HH.out.le (Le.refl _).drew⟩
  case hold =>
    intro t ht
    simp only [List.mem_cons, List.mem_nil_iff, or_false] at ht
    rcases ht with rfl | rfl | rfl | rfl | rfl | rfl | rfl | rfl <;> first | exact trivial | rfl
  case hs =>
    refine ⟨?_, ?_, ?_, ?_, ?_, ?_, trivial⟩
    · refine GrowStep.det ?_
      intro a W hg hop
      have h1 : a.eval (.tmp 4) = .pointer (some ⟨w.heap.size + 1, 0, none⟩) := hop 4 (by simp [Op.operands])
      refine ⟨.agg (r.cells pv hv), ?_, rfl⟩
      have hs := loadAt_row (P := Tryz.prog) hg.2.1 Tryz.underlying49 rfl sip_size
      simp only [execOp, h1, hs, Sem.run_bind, Sem.run_pure, Result.andThen, Sem.run_map]
    · refine GrowStep.call ?_ ?_ ?_ ?_
      · exact fun t u w w' k h => ipS_far _ _ _ _ _ _ t u w w' (fun g _ hg => k.block g hg) h
      · exact fun j w w' k ⟨x, h1, h2⟩ => ⟨x, k.heap h1, h2.le k⟩
      · exact hgl
      intro a W hg hop
      have h1 : a.eval (.tmp 9) = .agg (r.cells pv hv) := hop 9 (by simp [Op.operands, Call.operands])
      have h1' : a.tmps[9]?.getD undef = .agg (r.cells pv hv) := by simpa [Act.eval] using h1
      refine ⟨16, #[.agg (r.cells pv hv)], ?_, (place_c W r pv hv hg.2.2.2.1 hg.2.2.2.2 HSM.out).mono ?_⟩
      · simp only [execOp, h1]
        go_simp
      · rintro e w' ⟨x, rfl, hx, hle⟩
        have := lt_of_heap hg.2.1
        exact ⟨_, rfl, hle, x, rfl, hx.imp fun g h => by omega⟩
    · refine GrowStep.det ?_
      intro a W hg hop
      have h1 : a.eval (.tmp 5) = ev := hop 5 (by simp [Op.operands])
      refine ⟨ev, ?_, rfl⟩
      simp only [execOp, h1]
      go_simp
    · refine GrowStep.det ?_
      intro a W hg hop
      have h1 : a.eval (.tmp 11) = ev := hop 11 (by simp [Op.operands])
      refine ⟨.bool ok, ?_, rfl⟩
      obtain ⟨hq, hq2⟩ := HQ.out W
      simp only [execOp, h1]
      go_simp
    · refine GrowStep.store ?_ rfl
      intro a W hg hop
      have h1 : a.eval (.tmp 2) = .pointer (some ⟨w.heap.size, 0, none⟩) := hop 2 (by simp [Op.operands])
      obtain ⟨x, h2, hx⟩ : ∃ x : UV, a.eval (.tmp 10) = x.val ∧ Uq (w.heap.size + 2 ≤ ·) W x r := hop 10 (by simp [Op.operands])
      obtain ⟨h3, h4, ⟨cs, h5, h6⟩, h7, h8⟩ := hg
      have hk := kp_setRow W w.heap.size x.row
      have hfar : ∀ g, w.heap.size + 2 ≤ g → g < W.heap.size → (W.setRow w.heap.size x.row).heap[g]? = W.heap[g]? := fun g hg _ => setRow_other W _ g _ (by omega)
      refine ⟨W.setRow w.heap.size x.row, ?_, ⟨h3.trans hk, (setRow_other W _ _ _ (by omega)).trans h4, ⟨x.row, rfl, setRow_heap W _ _ _ _ _ h6⟩, h7.kp hk h6 (by decide), h8.kp hk h6 (by decide)⟩, fun t v hv => ipS_far _ _ _ _ _ _ t v W _ hfar hv, ?_, x, setRow_heap W _ _ _ _ _ h6, hx.keep hfar⟩
      · have hs := run_storeVar_row (P := Tryz.prog) W w.heap.size 32 32 cs x.row h6 uri_size h5 hx.one
        simp only [execOp, h1, h2, UV.val, Instr.storeAt, Instr.sureAddr, Sem.run_bind, Sem.run_pure, Result.andThen]
        rw [show #[x.scheme, x.raw, .bool x.wild, .bool x.slash, x.user, x.pass, x.host, .int .i64 x.port, x.ps, x.hs] = x.row from rfl, hs]
      · intro j _ ⟨y, e1, e2⟩
        exact ⟨x, setRow_heap W _ _ _ _ _ h6, hx.keep hfar⟩
    · refine GrowStep.det ?_
      intro a W hg hop
      have h1 : a.eval (.tmp 12) = .bool ok := hop 12 (by simp [Op.operands])
      refine ⟨.bool ok, ?_, rfl⟩
      simp only [execOp, h1]
      go_simp
  case hend =>
    intro a' w' hg hd hn hS hZ
    obtain ⟨x, hx1, hx2⟩ := hZ 4 _ rfl rfl
    have h2 : a'.eval (.tmp 2) = .pointer (some ⟨w.heap.size, 0, none⟩) := hS 2 (by decide)
    have h3 : a'.eval (.tmp 3) = .bool ok := hS 3 (by decide)
    have HG := Lib.hid hg
    clear hS hZ hg
    go_wp2
    refine bodyPost_ret (v := .tuple #[x.val, .bool ok]) ?_ hd ?_
    · rw [results_cell_tmp rfl]
      have h2' : a'.tmps.getD 2 undef = .pointer (some ⟨w.heap.size, 0, none⟩) := h2
      have h3' : a'.tmps.getD 3 undef = .bool ok := h3
      rw [h2', h3']
      simp only [asAddr, Sem.run_pure, Result.andThen_ok, run_loadVar_row w' _ _ _ _ _ _ hx1 Tryz.underlying32 rfl uri_size]
      rfl
    · refine ⟨Below.trans HLE2.out (HG.out.1.below (Nat.le_refl _) HLE2.out.size), x, ok, r, rfl, hx2.imp fun g h => by omega, HPT.out⟩
end Go.Proofs.YtgpkfocgoigokaaGreatDoor
