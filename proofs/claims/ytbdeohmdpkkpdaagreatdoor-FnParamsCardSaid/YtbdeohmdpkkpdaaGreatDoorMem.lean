/- How the package's URIs and parameters lie in memory. -/
import Derived.Test.YtbdeohmdpkkpdaaGreatDoorSpec
set_option linter.unusedVariables false
set_option linter.unusedSimpArgs false
namespace Go.Proofs.YtbdeohmdpkkpdaaGreatDoor
open Go.RowKit

/-- the cells of parameters -/
def kvCells : KVs → List Value
  | [] => []
  | x :: r => .string (st x.1) :: .string (st x.2) :: kvCells r
theorem kvCells_length (l : KVs) : (kvCells l).length = l.length * 2 := by
  induction l with
  | nil => rfl
  | cons x r ih => simp only [kvCells, List.length_cons, ih]; omega
theorem kvCells_append (a b : KVs) : kvCells (a ++ b) = kvCells a ++ kvCells b := by
  induction a with
  | nil => rfl
  | cons x r ih => simp [kvCells, ih]
theorem kvCells_at (l : KVs) (j : Nat) (h : j < l.length) : (kvCells l)[2 * j]? = some (.string (st l[j].1)) ∧ (kvCells l)[2 * j + 1]? = some (.string (st l[j].2)) := by
  induction l generalizing j with
  | nil => simp at h
  | cons x r ih =>
    cases j with
    | zero => exact ⟨rfl, rfl⟩
    | succ j =>
      have := ih j (by simpa using h)
      rw [show 2 * (j + 1) = 2 * j + 1 + 1 from by omega]
      simpa [kvCells] using this

/-- v is a list of parameters of the package that reads as l; its row is of type 164 -/
def Hp (w : World) (v : Value) (l : KVs) : Prop :=
  ∃ A c, v = .slice A l.length c ∧ l.length ≤ c ∧ c ≤ 9223372036854775807 ∧ l.length ≤ 1099511627776 ∧
    (∀ x ∈ l, x.1.length ≤ 1099511627776 ∧ x.2.length ≤ 1099511627776) ∧
    (0 < l.length → ∃ g o, A = some ⟨g, o, none⟩ ∧ (∃ cur fz, w.heap[g]? = some (.cells cur 164 fz)) ∧
      ∀ j (h : j < l.length), w.cell? ⟨g, o + j * 2, none⟩ = some (.string (st l[j].1)) ∧ w.cell? ⟨g, o + j * 2 + 1, none⟩ = some (.string (st l[j].2)))
theorem Hp.nil (w : World) : Hp w (.slice none 0 0) [] := ⟨none, 0, rfl, by simp, by simp, by simp, by simp, fun h => by simp at h⟩

/-- nothing but block b has turned (and what is new) -/
abbrev Kp (b : Nat) (w w' : World) : Prop := w.grownBy w' (some b)
theorem Kp.refl (b : Nat) (w : World) : Kp b w w := ⟨rfl, rfl, rfl, Nat.le_refl _, fun _ _ _ => rfl⟩
theorem Kp.trans {b : Nat} {u v w : World} (h : Kp b u v) (k : Kp b v w) : Kp b u w :=
  ⟨k.os.trans h.os, k.tape.trans h.tape, k.output.trans h.output, Nat.le_trans h.size k.size, fun i hi hb => (k.block i (Nat.lt_of_lt_of_le hi h.size) hb).trans (h.block i hi hb)⟩
theorem Kp.le {b : Nat} {u v w : World} (h : Kp b u v) (k : Le v w) : Kp b u w :=
  ⟨k.os.trans h.os, k.tape.trans h.tape, k.output.trans h.output, Nat.le_trans h.size k.size, fun i hi hb => (k.block i (Nat.lt_of_lt_of_le hi h.size)).trans (h.block i hi hb)⟩
theorem Le.kp {v w : World} (k : Le v w) (b : Nat) : Kp b v w := (Kp.refl b v).le k
theorem Kp.set {b : Nat} {u v : World} (h : Kp b u v) (o : Nat) (x : Value) : Kp b u (v.setCell ⟨b, o, none⟩ x) :=
  h.trans ⟨rfl, rfl, rfl, by simp [World.setCell], fun k _ hb => Below.heap_setCell _ _ _ _ (fun e => hb (by rw [e]))⟩
/-- .. and what lies below a place that b is not below -/
theorem Kp.below {b B : Nat} {u v : World} (h : Kp b u v) (hb : B ≤ b) (hB : B ≤ u.heap.size) : Below B u v :=
  ⟨h.os, h.tape, h.output, h.size, fun k hk => h.block k (by omega) (fun e => by injection e; omega)⟩
theorem Kp.heap {b : Nat} {w w' : World} (h : Kp b w w') {k : Nat} (hb : k ≠ b) {o : Obj} (hk : w.heap[k]? = some o) : w'.heap[k]? = some o :=
  (h.block k (lt_of_heap hk) (fun e => hb (by injection e))).trans hk

theorem Hp.of_blocks {w w' : World} {v : Value} {l : KVs} (h : Hp w v l) (hk : ∀ (g : Nat) (cur : Array Value) (fz : Nat × Nat), w.heap[g]? = some (.cells cur 164 fz) → w'.heap[g]? = w.heap[g]?) : Hp w' v l := by
  obtain ⟨A, c, e, h1, h2, h3, h4, h5⟩ := h
  refine ⟨A, c, e, h1, h2, h3, h4, fun hn => ?_⟩
  obtain ⟨g, o, e, ⟨cur, fz, hg⟩, hc⟩ := h5 hn
  have e1 := hk g cur fz hg
  exact ⟨g, o, e, ⟨cur, fz, e1.trans hg⟩, fun j hj => ⟨(World.cell?_of_block (a := ⟨g, o + j * 2, none⟩) e1).trans (hc j hj).1, (World.cell?_of_block (a := ⟨g, o + j * 2 + 1, none⟩) e1).trans (hc j hj).2⟩⟩
theorem Hp.le {w w' : World} {v : Value} {l : KVs} (h : Hp w v l) (hw : Le w w') : Hp w' v l := h.of_blocks fun g _ _ hg => hw.block g (lt_of_heap hg)
theorem Hp.kp {w w' : World} {v : Value} {l : KVs} {b : Nat} (h : Hp w v l) (hw : Kp b w w') {cs : Array Value} {T : TypeId} {fz : Nat × Nat} (hb : w.heap[b]? = some (.cells cs T fz)) (hT : T ≠ 164) : Hp w' v l :=
  h.of_blocks fun g cur fz' hg => hw.block g (lt_of_heap hg) (fun e => by
    injection e with e; subst e; rw [hb] at hg; injection hg with hg; injection hg with _ h2; exact hT h2)
/-- a row of the call's own reads -/
theorem Hp.of_own {w : World} {base : Nat} {v : Value} {l : KVs} (h : w.ownsRow base 164 2 v l.length (kvCells l)) (h3 : l.length ≤ 1099511627776) (h4 : ∀ x ∈ l, x.1.length ≤ 1099511627776 ∧ x.2.length ≤ 1099511627776) : Hp w v l := by
  have h0 := h
  obtain ⟨_, h2⟩ := h
  rcases h2 with ⟨rfl, hn⟩ | ⟨g, cap, cur, rfl, hg, hh, hle, hm, hs, ht⟩
  · obtain rfl : l = [] := List.eq_nil_of_length_eq_zero hn
    exact Hp.nil w
  · unfold maxLen at hm
    refine ⟨_, _, rfl, hle, hm, h3, h4, fun _ => ⟨g, 0, rfl, ⟨cur, _, hh⟩, fun j hj => ?_⟩⟩
    have k := kvCells_at l j hj
    have a1 := h0.cells (g := g) rfl (2 * j) _ k.1
    have a2 := h0.cells (g := g) rfl (2 * j + 1) _ k.2
    have e1 : ∀ i, (⟨g, 0, none⟩ : Addr).add i = ⟨g, 0 + i, none⟩ := fun i => by unfold Addr.add; split <;> simp_all
    rw [e1, Nat.mul_comm 2 j] at a1 a2
    exact ⟨a1, a2⟩

/-- the values of a URI's cells -/
def PU.cells (u : PU) (pv hv : Value) : Array Value :=
  #[.string (st u.scheme), .string (st u.raw), .bool u.wild, .bool u.slash, .string (st u.user), .string (st u.pass), .string (st u.host), .int .i64 u.port, pv, hv]
/-- no part of it is too large -/
def PU.small (u : PU) : Prop :=
  u.scheme.length ≤ 1099511627776 ∧ u.raw.length ≤ 1099511627776 ∧ u.user.length ≤ 1099511627776 ∧ u.pass.length ≤ 1099511627776 ∧ u.host.length ≤ 1099511627776 ∧
  -9223372036854775808 ≤ u.port ∧ u.port ≤ 9223372036854775807
/-- block b is the URI u -/
def UAt (w : World) (b : Nat) (u : PU) : Prop :=
  ∃ pv hv, w.heap[b]? = some (.cells (u.cells pv hv) 128 (0, 0)) ∧ Hp w pv u.ps ∧ Hp w hv u.hs ∧ u.small
theorem UAt.le {w w' : World} {b : Nat} {u : PU} (h : UAt w b u) (hw : Le w w') : UAt w' b u := by
  obtain ⟨pv, hv, h1, h2, h3, h4⟩ := h; exact ⟨pv, hv, hw.heap h1, h2.le hw, h3.le hw, h4⟩
theorem UAt.lt {w : World} {b : Nat} {u : PU} (h : UAt w b u) : b < w.heap.size := by obtain ⟨pv, hv, h1, _⟩ := h; exact lt_of_heap h1
theorem UAt.sm {w : World} {b : Nat} {u : PU} (h : UAt w b u) : u.small := by obtain ⟨pv, hv, _, _, _, h4⟩ := h; exact h4
theorem frozen_cells {w : World} {b : Nat} {cs : Array Value} {T : TypeId} (h : w.heap[b]? = some (.cells cs T (0, 0))) (j : Nat) : w.frozen? ⟨b, j, none⟩ = false := by simp [World.frozen?, h]
theorem cell_cells {w : World} {b : Nat} {cs : Array Value} {T : TypeId} {fz : Nat × Nat} (h : w.heap[b]? = some (.cells cs T fz)) (j : Nat) : w.cell? ⟨b, j, none⟩ = cs[j]? := by simp [World.cell?, h]
theorem heap_set {w : World} {b : Nat} {cs : Array Value} {T : TypeId} {fz : Nat × Nat} (h : w.heap[b]? = some (.cells cs T fz)) (j : Nat) (x : Value) : (w.setCell ⟨b, j, none⟩ x).heap[b]? = some (.cells (cs.setIfInBounds j x) T fz) := by
  simp [World.setCell, Array.getElem?_modify, h]
theorem kp_set (w : World) (b o : Nat) (x : Value) : Kp b w (w.setCell ⟨b, o, none⟩ x) := (Kp.refl b w).set o x

section
variable {w : World} {b : Nat} {u : PU}
theorem UAt.put (h : UAt w b u) (j : Nat) (x : Value) (u' : PU) (hc : ∀ pv hv, (u.cells pv hv).setIfInBounds j x = u'.cells pv hv) (hp : u'.ps = u.ps) (hh : u'.hs = u.hs) (hs : u'.small) : UAt (w.setCell ⟨b, j, none⟩ x) b u' := by
  obtain ⟨pv, hv, h1, h2, h3, h4⟩ := h
  refine ⟨pv, hv, by rw [heap_set h1, hc], ?_, ?_, hs⟩
  · rw [hp]; exact h2.kp (kp_set w b j x) h1 (by decide)
  · rw [hh]; exact h3.kp (kp_set w b j x) h1 (by decide)
theorem UAt.frozen (h : UAt w b u) (j : Nat) : w.frozen? ⟨b, j, none⟩ = false := by obtain ⟨pv, hv, h1, _⟩ := h; exact frozen_cells h1 j
theorem UAt.c0 (h : UAt w b u) : w.cell? ⟨b, 0, none⟩ = some (.string (st u.scheme)) := by obtain ⟨pv, hv, h1, _⟩ := h; exact cell_cells h1 0
theorem UAt.c1 (h : UAt w b u) : w.cell? ⟨b, 1, none⟩ = some (.string (st u.raw)) := by obtain ⟨pv, hv, h1, _⟩ := h; exact cell_cells h1 1
theorem UAt.c2 (h : UAt w b u) : w.cell? ⟨b, 2, none⟩ = some (.bool u.wild) := by obtain ⟨pv, hv, h1, _⟩ := h; exact cell_cells h1 2
theorem UAt.c3 (h : UAt w b u) : w.cell? ⟨b, 3, none⟩ = some (.bool u.slash) := by obtain ⟨pv, hv, h1, _⟩ := h; exact cell_cells h1 3
theorem UAt.c4 (h : UAt w b u) : w.cell? ⟨b, 4, none⟩ = some (.string (st u.user)) := by obtain ⟨pv, hv, h1, _⟩ := h; exact cell_cells h1 4
theorem UAt.c5 (h : UAt w b u) : w.cell? ⟨b, 5, none⟩ = some (.string (st u.pass)) := by obtain ⟨pv, hv, h1, _⟩ := h; exact cell_cells h1 5
theorem UAt.c6 (h : UAt w b u) : w.cell? ⟨b, 6, none⟩ = some (.string (st u.host)) := by obtain ⟨pv, hv, h1, _⟩ := h; exact cell_cells h1 6
theorem UAt.c7 (h : UAt w b u) : w.cell? ⟨b, 7, none⟩ = some (.int .i64 u.port) := by obtain ⟨pv, hv, h1, _⟩ := h; exact cell_cells h1 7
end

theorem toList_beq (s : ByteArray) (l : Tx) : (s.toList == l) = decide (bs s = l) := by
  rw [ByteArray.toList_eq s]
  show (bs s == l) = _
  by_cases h : bs s = l
  · rw [h]; simp
  · have h1 : (bs s == l) = false := by simpa using h
    rw [h1]; simp [h]

/-! ### scans -/
theorem ret3 {a b c a' b' c' : Value} (h1 : a = a') (h2 : b = b') (h3 : c = c') : Ending.returned (.tuple #[a, b, c]) = .returned (.tuple #[a', b', c']) := by rw [h1, h2, h3]
theorem str_eq {s t : ByteArray} (h : s = t) : Value.string s = .string t := by rw [h]
theorem ext_drop (s : ByteArray) (p : Nat) : s.extract p s.size = st ((bs s).drop p) := by
  rw [ext_st, List.take_of_length_le (by rw [bs_len]; exact Nat.le_refl _)]
theorem ext_take (s : ByteArray) (p : Nat) : s.extract 0 p = st ((bs s).take p) := by rw [ext_st]; rfl
/-- a scan that has come to its sign -/
theorem scan_at {p : UInt8 → Bool} {l : Tx} {i : Nat} (hi : i < l.length) (hp : p l[i] = true) (hn : (l.take i).all (fun c => !p c) = true) : l.findIdx p = i := by
  rw [List.findIdx_eq hi]
  refine ⟨hp, fun j hj => ?_⟩
  have := List.all_eq_true.1 hn l[j] (by rw [List.mem_take_iff_getElem]; exact ⟨j, by omega, rfl⟩)
  simpa using this
theorem scan_end {p : UInt8 → Bool} {l : Tx} (hn : l.all (fun c => !p c) = true) : l.findIdx p = l.length := by
  rw [List.findIdx_eq_length]
  intro x hx
  have := List.all_eq_true.1 hn x hx
  simpa using this
theorem all_snoc (p : UInt8 → Bool) (l : Tx) (x : UInt8) : (l ++ [x]).all p = (l.all p && p x) := by simp
theorem getD_at {l : Tx} {i : Nat} (h : i < l.length) : l.getD i 0 = l[i] := by simp [List.getD_eq_getElem?_getD, List.getElem?_eq_getElem h]
theorem u8_of {x : UInt8} {n : Nat} (h : (x.toNat : Int) = n) (hn : n < 256) : x = UInt8.ofNat n := by
  apply UInt8.toNat_inj.1
  rw [UInt8.toNat_ofNat', Nat.mod_eq_of_lt hn]
  omega

theorem scan_hit {s : ByteArray} {p d : Nat} {c : Int} (h : StepIs s p c d) (n : Nat) (hn : n < 128) (hc : c = n) : ∃ hp : p < (bs s).length, (bs s)[p] = UInt8.ofNat n := by
  obtain ⟨_, _, _, _, h5⟩ := h
  rcases h5 with ⟨hp, e, _⟩ | ⟨e, _⟩
  · exact ⟨hp, u8_of (by omega) (by omega)⟩
  · omega
theorem scan_next {q : UInt8 → Bool} (hq : ∀ x : UInt8, 128 ≤ x.toNat → q x = false) {s : ByteArray} {p d : Nat} {c : Int} (h : StepIs s p c d) (ha : ((bs s).take p).all (fun c => !q c) = true) (hc : ∀ x : UInt8, c = (x.toNat : Int) → q x = false) :
    ((bs s).take (p + d)).all (fun c => !q c) = true := by
  rcases h.take (fun l => l.all (fun c => !q c)) (fun l x hx => by rw [all_snoc, hq x hx]; simp) with ⟨hp, e, _, hF⟩ | ⟨_, hF⟩
  · rw [hF, all_snoc, ha, hc _ e]; rfl
  · rw [hF, ha]

end Go.Proofs.YtbdeohmdpkkpdaaGreatDoor
