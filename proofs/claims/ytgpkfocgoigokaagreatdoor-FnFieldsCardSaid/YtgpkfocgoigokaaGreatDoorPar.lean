/- Contracts: parameters: index, Add, NewParams. -/
import Derived.Test.YtgpkfocgoigokaaGreatDoorLow
set_option linter.unusedVariables false
set_option linter.unusedSimpArgs false
namespace Go.Proofs.YtgpkfocgoigokaaGreatDoor
open Go.RowKit

/-- the place of a key, -1 if it is not there -/
def kIdx (l : KVs) (k : Tx) : Nat := l.findIdx (fun x => decide (x.1 = k))
def kInt (l : KVs) (k : Tx) : Int := if kIdx l k < l.length then (kIdx l k : Int) else -1
theorem kIdx_at {l : KVs} {k : Tx} {i : Nat} (hi : i < l.length) (h : l[i].1 = k) (hn : (l.take i).all (fun x => !decide (x.1 = k)) = true) : kInt l k = i := by
  have e : kIdx l k = i := by
    unfold kIdx
    rw [List.findIdx_eq hi]
    refine ⟨by simpa using h, fun j hj => ?_⟩
    have := List.all_eq_true.1 hn l[j] (by rw [List.mem_take_iff_getElem]; exact ⟨j, by omega, rfl⟩)
    simpa using this
  unfold kInt
  rw [e, if_pos hi]
theorem kIdx_none {l : KVs} {k : Tx} (hn : l.all (fun x => !decide (x.1 = k)) = true) : kInt l k = -1 := by
  have e : kIdx l k = l.length := by
    unfold kIdx
    rw [List.findIdx_eq_length]
    intro x hx
    have := List.all_eq_true.1 hn x hx
    simpa using this
  unfold kInt
  rw [e, if_neg (Nat.lt_irrefl _)]
theorem st_toList (l : Tx) : (st l).toList = l := by rw [Lib.toList_data]; rfl
theorem st_beq2 (a b : Tx) : ((st a).toList == (st b).toList) = decide (a = b) := by rw [st_toList, st_toList]; by_cases h : a = b <;> simp [h]

set_option maxHeartbeats 1000000 in
theorem index_c (w : World) (v : Value) (l : KVs) (key : Tx) (hv : Hp w v l) :
    Calls Tryz.prog 106 #[v, .string (st key)] w fun e w' => e = .returned (.int .i64 (kInt l key)) ∧ Le w w' := by
  obtain ⟨A, c, rfl, hc1, hc2, hl, _, hr⟩ := hv
  go_enter Tryz.func106, Tryz.ntmps106
  go_wp2
  go_loopg [9] (l.length) (fun n i wr => ∃ k : Nat, n + k = l.length ∧ i = .int .i64 k ∧ Le w wr ∧ (l.take k).all (fun x => !decide (x.1 = key)) = true)
  case atStart => exact ⟨0, by omega, rfl, Le.refl w, rfl⟩
  case round =>
    obtain ⟨k, hn, rfl, hle, hq⟩ := hrel
    have HQ := Lib.hid hq
    have HLE := Lib.hid hle
    have HN : gk + k ≤ l.length ∧ l.length ≤ gk + k := by omega
    clear hn hq
    by_cases hlt : k < l.length
    · obtain ⟨g, o, rfl, hg, hcells⟩ := hr (by omega)
      have d1 := hle.cell (hcells k hlt).1
      have d2 := hle.cell (hcells k hlt).2
      clear hle hcells hg hr
      by_cases hk : l[k].1 = key
      · have hb : ((st l[k].1).toList == (st key).toList) = true := by rw [st_beq2]; simpa using hk
        have hres := Lib.hid (kIdx_at hlt hk HQ.out)
        clear hk
        go_wp2
        go_ret
        exact ⟨by rw [hres.out]; rfl, HLE.out.alloc _⟩
      · have hb : ((st l[k].1).toList == (st key).toList) = false := by rw [st_beq2]; simpa using hk
        have hF := Lib.hid (show (l.take (k + 1)).all (fun x => !decide (x.1 = key)) = true from by
          rw [List.take_succ_eq_append_getElem hlt]; simp only [List.all_append, HQ.out, List.all_cons, List.all_nil]; simpa using hk)
        clear hk
        go_wp2
        go_roundg (gk - 1)
        case measure => omega
        case rel => exact ⟨k + 1, by omega, by go_num, HLE.out.alloc _, hF.out⟩
    · have hres := Lib.hid (kIdx_none (k := key) (l := l) (by have h1 := HQ.out; rw [List.take_of_length_le (by omega)] at h1; exact h1))
      clear hr hle
      go_wp2
      go_ret
      exact ⟨by rw [hres.out]; rfl, HLE.out⟩

/-! ### Add -/
theorem addKV_set {l : KVs} {k v : Tx} : ∀ (i : Nat), kInt l k = i → i < l.length → addKV l k v = l.set i (k, v) := by
  induction l with
  | nil => intro i h hi; simp at hi
  | cons x r ih =>
    intro i h hi
    unfold addKV
    by_cases hx : x.1 = k
    · have e : kIdx (x :: r) k = 0 := by unfold kIdx; rw [List.findIdx_cons]; simp [hx]
      unfold kInt at h
      rw [e, if_pos (by simp)] at h
      obtain rfl : i = 0 := by omega
      rw [if_pos hx]; rfl
    · have e : kIdx (x :: r) k = kIdx r k + 1 := by unfold kIdx; rw [List.findIdx_cons]; simp [hx]
      unfold kInt at h
      rw [e] at h
      rw [if_neg hx]
      by_cases hr : kIdx r k < r.length
      · rw [if_pos (by simp; omega)] at h
        obtain rfl : i = kIdx r k + 1 := by omega
        rw [ih (kIdx r k) (by unfold kInt; rw [if_pos hr]) hr]; rfl
      · rw [if_neg (by simp; omega)] at h
        omega
theorem addKV_new {l : KVs} {k v : Tx} (h : kInt l k = -1) : addKV l k v = l ++ [(k, v)] := by
  induction l with
  | nil => rfl
  | cons x r ih =>
    unfold addKV
    by_cases hx : x.1 = k
    · have e : kIdx (x :: r) k = 0 := by unfold kIdx; rw [List.findIdx_cons]; simp [hx]
      unfold kInt at h
      rw [e, if_pos (by simp)] at h
      omega
    · have e : kIdx (x :: r) k = kIdx r k + 1 := by unfold kIdx; rw [List.findIdx_cons]; simp [hx]
      unfold kInt at h
      rw [e] at h
      rw [if_neg hx]
      by_cases hr : kIdx r k < r.length
      · rw [if_pos (by simp; omega)] at h; omega
      · rw [ih (by unfold kInt; rw [if_neg hr])]; rfl
theorem kInt_range (l : KVs) (k : Tx) : (∃ i : Nat, kInt l k = i ∧ ∃ hi : i < l.length, l[i].1 = k) ∨ kInt l k = -1 := by
  unfold kInt
  by_cases h : kIdx l k < l.length
  · refine .inl ⟨kIdx l k, by rw [if_pos h], h, ?_⟩
    have := List.findIdx_getElem (xs := l) (p := fun (x : Tx × Tx) => decide (x.1 = k)) (w := h)
    exact of_decide_eq_true this
  · exact .inr (by rw [if_neg h])
theorem kvCells_set (l : KVs) (i : Nat) (hi : i < l.length) (k v : Tx) (hk : l[i].1 = k) : (kvCells l).set (i * 2 + 1) (.string (st v)) = kvCells (l.set i (k, v)) := by
  induction l generalizing i with
  | nil => simp at hi
  | cons x r ih =>
    cases i with
    | zero => simp only [List.getElem_cons_zero] at hk; simp [kvCells, hk]
    | succ i =>
      have := ih i (by simpa using hi) (by simpa using hk)
      rw [show (i + 1) * 2 + 1 = i * 2 + 1 + 1 + 1 from by omega]
      simp only [kvCells, List.set_cons_succ, this]

/-- what turns: block b, and rows of parameters from 'base' on -/
structure PFr (base b : Nat) (w w' : World) : Prop where
  os : w'.os = w.os
  tape : w'.tape = w.tape
  output : w'.output = w.output
  size : w.heap.size ≤ w'.heap.size
  low : ∀ k, k < base → k ≠ b → w'.heap[k]? = w.heap[k]?
  oth : Lib.OthersKept 102 (some b) w w'
theorem PFr.refl (base b : Nat) (w : World) : PFr base b w w := ⟨rfl, rfl, rfl, Nat.le_refl _, fun _ _ _ => rfl, Lib.OthersKept.refl _ _ _⟩
theorem PFr.trans {base b : Nat} {u v w : World} (h : PFr base b u v) (k : PFr base b v w) : PFr base b u w :=
  ⟨k.os.trans h.os, k.tape.trans h.tape, k.output.trans h.output, Nat.le_trans h.size k.size, fun i hi hb => (k.low i hi hb).trans (h.low i hi hb), h.oth.trans k.oth⟩
theorem Le.oth {v w : World} (k : Le v w) (e : TypeId) (b : Option Nat) : Lib.OthersKept e b v w := fun i o hi _ _ => k.heap hi
theorem PFr.le {base b : Nat} {u v w : World} (h : PFr base b u v) (k : Le v w) (hb : base ≤ u.heap.size) : PFr base b u w :=
  h.trans ⟨k.os, k.tape, k.output, k.size, fun i hi _ => k.block i (Nat.lt_of_lt_of_le hi (Nat.le_trans hb h.size)), k.oth _ _⟩
theorem PFr.grown {base b : Nat} {u v w : World} {row : Option Nat} (h : PFr base b u v) (hg : v.grownBy w row) (hb : base ≤ u.heap.size) (hrow : ∀ g, row = some g → base ≤ g ∧ ∃ c fz, v.heap[g]? = some (.cells c 102 fz)) : PFr base b u w :=
  ⟨hg.os.trans h.os, hg.tape.trans h.tape, hg.output.trans h.output, Nat.le_trans h.size hg.size,
    fun i hi hne => (hg.block i (Nat.lt_of_lt_of_le hi (Nat.le_trans hb h.size)) (fun e => by have := (hrow i e.symm).1; omega)).trans (h.low i hi hne),
    h.oth.grown hg (fun g hg' => (hrow g hg').2)⟩
theorem PFr.set {base b : Nat} {u v : World} (h : PFr base b u v) (o : Nat) (x : Value) : PFr base b u (v.setCell ⟨b, o, none⟩ x) :=
  ⟨h.os, h.tape, h.output, by simpa [World.setCell] using h.size, fun i hi hne => (Below.heap_setCell _ _ _ _ hne).trans (h.low i hi hne), h.oth.setCell _ rfl _⟩
/-- the slice at cell o of block b is one of the call's own, and reads as l -/
def PAt (w : World) (base b o : Nat) (T : TypeId) (cs : Array Value) (l : KVs) : Prop :=
  ∃ v, cs[o]? = some v ∧ w.heap[b]? = some (.cells cs T (0, 0)) ∧ w.ownsRow base 102 2 v l.length (kvCells l)
theorem kv_info : ((Tryz.prog).info? 102).map (fun i => (i.zero, i.size, i.bytes)) = some (some (.agg #[.string ⟨#[]⟩, .string ⟨#[]⟩]), 2, 32) := by kernel_rfl
theorem own_not {w : World} {base : Nat} {v : Value} {n : Nat} {xs : List Value} (h : w.ownsRow base 102 2 v n xs) {b : Nat} {cs : Array Value} {T : TypeId} {fz : Nat × Nat} (hb : w.heap[b]? = some (.cells cs T fz)) (hT : T ≠ 102) : some b ≠ v.ownBlock := by
  rcases h.2 with ⟨rfl, _⟩ | ⟨g, cap, cur, rfl, _, hg, _⟩
  · simp [Value.ownBlock]
  · simp only [Value.ownBlock, ne_eq, Option.some.injEq]
    rintro rfl
    rw [hg] at hb
    injection hb with hb
    injection hb with _ h2
    exact hT h2.symm
theorem own_row {w : World} {base : Nat} {v : Value} {n : Nat} {xs : List Value} (h : w.ownsRow base 102 2 v n xs) : ∀ g, v.ownBlock = some g → base ≤ g ∧ ∃ c fz, w.heap[g]? = some (.cells c 102 fz) := by
  intro g hg
  rcases h.2 with ⟨rfl, _⟩ | ⟨g', cap, cur, rfl, hb, hh, _⟩
  · simp [Value.ownBlock] at hg
  · simp only [Value.ownBlock, Option.some.injEq] at hg
    subst hg
    exact ⟨hb, cur, _, hh⟩
def AddPost (base b o : Nat) (T : TypeId) (cs : Array Value) (l : KVs) (w : World) (e : Ending) (w' : World) : Prop :=
  ∃ v', e = .returned v' ∧ PAt w' base b o T (cs.setIfInBounds o v') l ∧ PFr base b w w'

set_option maxHeartbeats 1000000 in
theorem add_c (base b o : Nat) (T : TypeId) (cs : Array Value) (l : KVs) (k v : Tx) (w : World) (h : PAt w base b o T cs l) (hT : T ≠ 102) (hbase : base ≤ w.heap.size)
    (hl : l.length ≤ 1099511627775) (hm : ∀ x ∈ l, x.1.length ≤ 1099511627776 ∧ x.2.length ≤ 1099511627776) :
    Calls Tryz.prog 92 #[.pointer (some ⟨b, o, none⟩), .string (st k), .string (st v)] w (AddPost base b o T cs (addKV l k v) w) := by
  obtain ⟨x, hx, hb, hown⟩ := h
  have hcell : w.cell? ⟨b, o, none⟩ = some x := (cell_cells hb o).trans hx
  have hHp := Hp.of_own hown (by omega) hm
  obtain ⟨c, A, rfl⟩ : ∃ c A, x = .slice A l.length c := by obtain ⟨A, c, e, _⟩ := hHp; exact ⟨c, A, e⟩
  have HOWN := Lib.hid hown
  have HB := Lib.hid hb
  have HX := Lib.hid hx
  have HHP := Lib.hid hHp
  clear hb hx hown hHp hm
  go_enter Tryz.func92, Tryz.ntmps92
  go_wp2_with fail
  refine (index_c _ _ _ _ HHP.out).mono ?_
  rintro e w1 ⟨rfl, hle1⟩
  have HLE1 := Lib.hid hle1
  have c1 := hle1.cell hcell
  have HOWN1 : Hid (w1.ownsRow base 102 2 (.slice A l.length c) l.length (kvCells l)) := HOWN.out.kept ⟨hle1.os, hle1.tape, hle1.output, hle1.size, fun i hi _ => hle1.block i hi⟩ (Classical.em _)
  have HB1 := Lib.hid (hle1.heap HB.out)
  clear hle1 hcell
  rcases kInt_range l k with ⟨i, hi, hil, hik⟩ | hno
  · rw [hi]
    have hres := Lib.hid (addKV_set (v := v) i hi hil)
    clear hi
    obtain ⟨g, cap, hv, _⟩ := HOWN1.out.form (by omega)
    obtain ⟨rfl, rfl⟩ : A = some ⟨g, 0, none⟩ ∧ c = cap := by injection hv with h1 _ h2; exact ⟨h1, h2⟩
    clear hv
    have hbg : b ≠ g := by
      have := own_not HOWN1.out HB1.out hT
      simp only [Value.ownBlock, ne_eq, Option.some.injEq] at this
      exact this
    have hll : (kvCells l).length = l.length * 2 := kvCells_length l
    have c2 : w1.cell? ⟨g, i * 2 + 1, none⟩ = some ((kvCells l)[i * 2 + 1]'(by omega)) := by
      rw [HOWN1.out.cellAt (i * 2 + 1) (by omega), List.getElem?_eq_getElem (by omega)]
    have z2 : w1.frozen? ⟨g, i * 2 + 1, none⟩ = false := HOWN1.out.frozenAt _
    have c3 : ∀ x, (w1.setCell ⟨g, i * 2 + 1, none⟩ x).cell? ⟨b, o, none⟩ = some (.slice (some ⟨g, 0, none⟩) l.length c) := fun x => by
      rw [World.cell?_setCell_other _ _ _ _ (by intro e; injection e with e; exact hbg e.symm)]; exact c1
    generalize (kvCells l)[i * 2 + 1] = y at c2
    have HG := Lib.hid hbg
    clear hbg hll
    go_wp2
    go_ret
    refine ⟨.slice (some ⟨g, 0, none⟩) l.length c, rfl, ?_, ?_⟩
    · rw [hres.out]
      have hst := HOWN1.out.stored (i * 2 + 1) (.string (st v))
      refine ⟨_, by rw [Array.getElem?_setIfInBounds_self_of_lt (by exact (Array.getElem?_eq_some_iff.1 HX.out).1)], ?_, ?_⟩
      · have h1 := HB1.out
        have h2 : cs.setIfInBounds o (.slice (some ⟨g, 0, none⟩) l.length c) = cs := by
          apply Array.ext
          · simp
          · intro j h1 h2
            rw [Array.getElem_setIfInBounds]
            split
            · rename_i e
              subst e
              have := HX.out
              rw [Array.getElem?_eq_getElem h2] at this
              exact (Option.some.inj this).symm
            · rfl
        rw [h2]
        exact (Below.heap_setCell _ _ _ _ HG.out).trans h1
      · rw [← kvCells_set l i hil k v hik, List.length_set]
        exact hst.1
    · refine ((PFr.refl base b w).le HLE1.out hbase).grown (HOWN1.out.stored (i * 2 + 1) _).2 hbase ?_
      intro g' hg'
      injection hg' with hg'
      subst hg'
      exact own_row HOWN1.out g rfl
  · rw [hno]
    have hres := Lib.hid (addKV_new (v := v) hno)
    clear hno
    obtain ⟨i0, hi0, hz0, hz1, hz2⟩ := info_parts kv_info
    have z1 : w1.frozen? ⟨b, o, none⟩ = false := frozen_cells HB1.out o
    go_wp2_with (at_builtin; refine wpList_append_lies _ rfl _ _ 47 rfl base 102 i0 (.agg #[.string ⟨#[]⟩, .string ⟨#[]⟩]) 2 32 Tryz.underlying47 hi0 hz0 hz1 hz2 rfl (by decide) _ _ _ rfl (HOWN1.out.alloc _) ⟨w1.heap.size, 0, none⟩ 1 1 [.string (st k), .string (st v)] rfl rfl ?c1 ?c2 ?c3 ?c4 ?c5 ?c6 (w1.heap.size + 1) ?c7 ?_)
    case c1 => exact World.news_of_block (heap_alloc_new w1 _)
    case c2 => intro u hu; simp only [List.mem_cons, List.mem_nil_iff, or_false] at hu; rcases hu with rfl | rfl <;> rfl
    case c3 => omega
    case c4 => unfold maxLen; omega
    case c5 => omega
    case c6 => have := HLE1.out.size; simp; omega
    case c7 => simp
    intro g cap w2 hown2 hgrow2 hat2 hlt2
    have hnb := own_not HOWN1.out HB1.out hT
    have hb2 : w2.heap[b]? = some (.cells cs T (0, 0)) := by
      rw [hgrow2.block b (by have := lt_of_heap HB1.out; simp; omega) hnb]
      exact (Below.heap_alloc _ _ _ (lt_of_heap HB1.out)).trans HB1.out
    have q1 : w2.cell? ⟨b, o, none⟩ = some (.slice A l.length c) := (cell_cells hb2 o).trans HX.out
    have q2 : w2.frozen? ⟨b, o, none⟩ = false := frozen_cells hb2 o
    have HB2 := Lib.hid hb2
    have HOWN2 : Hid (w2.ownsRow base 102 2 (.slice (some ⟨g, 0, none⟩) (l.length + 1) cap) (l ++ [(k, v)]).length (kvCells (l ++ [(k, v)]))) := by
      rw [kvCells_append, List.length_append]
      exact hown2
    have HPF : Hid (PFr base b w w2) := by
      refine PFr.grown ((PFr.refl base b w).le (HLE1.out.alloc _) hbase) hgrow2 hbase ?_
      intro g' hg'
      have := own_row HOWN1.out g' hg'
      obtain ⟨h1, c', fz, h2⟩ := this
      exact ⟨h1, c', fz, (Below.heap_alloc _ _ _ (lt_of_heap h2)).trans h2⟩
    clear hown2 hgrow2 hat2 hlt2 hnb hb2 z1 c1
    go_wp2
    go_ret
    refine ⟨_, rfl, ?_, HPF.out.set o _⟩
    rw [hres.out]
    refine ⟨_, by rw [Array.getElem?_setIfInBounds_self_of_lt (by exact (Array.getElem?_eq_some_iff.1 HX.out).1)], heap_set HB2.out o _, ?_⟩
    exact HOWN2.out.kept (row := some b) (kp_set _ _ _ _) (.inr (fun e => own_not HOWN2.out HB2.out hT e.symm))
end Go.Proofs.YtgpkfocgoigokaaGreatDoor
