/- A row of pairs of the call's own, cut short or not; the specification's acts: lemmas. -/
import Derived.Test.YtgelnjcjpkklbaaGreatDoorFnPD
import Derived.ArgAppend
import Derived.Deep.Upon
set_option linter.unusedVariables false
set_option linter.unusedSimpArgs false
namespace Go.Proofs.YtgelnjcjpkklbaaGreatDoor
open Go.RowKit

def OwR (w : World) (base : Nat) (v : Value) (n : Nat) (xs : List Value) : Prop :=
  xs.length = n * 2 ∧ ((v = .slice none 0 0 ∧ n = 0) ∨
    ∃ g cap cur, v = .slice (some ⟨g, 0, none⟩) n cap ∧ base ≤ g ∧ w.heap[g]? = some (.cells cur 104 (0, 0)) ∧ n ≤ cap ∧ cap ≤ maxLen ∧ cap * 2 ≤ cur.size ∧ cur.toList.take (n * 2) = xs)
theorem OwR.of_own {w : World} {base n : Nat} {v : Value} {xs : List Value} (h : w.ownsRow base 104 2 v n xs) : OwR w base v n xs :=
  ⟨h.1, h.2.imp id fun ⟨g, cap, cur, a1, a2, a3, a4, a5, a6, a7⟩ => ⟨g, cap, cur, a1, a2, a3, a4, a5, Nat.le_of_eq a6.symm, a7⟩⟩
theorem OwR.kept {w w' : World} {base n : Nat} {v : Value} {xs : List Value} {row : Option Nat} (h : OwR w base v n xs) (hg : w.grownBy w' row) (hne : v.ownBlock = none ∨ v.ownBlock ≠ row) : OwR w' base v n xs := by
  refine ⟨h.1, ?_⟩
  rcases h.2 with hn | ⟨g, cap, cur, rfl, hb, hgg, rest⟩
  · exact .inl hn
  · refine .inr ⟨g, cap, cur, rfl, hb, ?_, rest⟩
    rw [hg.block g (lt_of_heap hgg) (fun e => by rcases hne with h | h <;> simp_all [Value.ownBlock])]
    exact hgg
theorem OwR.le {w w' : World} {base n : Nat} {v : Value} {xs : List Value} (h : OwR w base v n xs) (k : Le w w') : OwR w' base v n xs :=
  h.kept (row := none) ⟨k.os, k.tape, k.output, k.size, fun i hi _ => k.block i hi⟩ (Classical.em _)
theorem OwR.row {w : World} {base n : Nat} {v : Value} {xs : List Value} (h : OwR w base v n xs) : ∀ g, v.ownBlock = some g → base ≤ g ∧ ∃ c fz, w.heap[g]? = some (.cells c 104 fz) := by
  intro g hg
  rcases h.2 with ⟨rfl, _⟩ | ⟨g', cap, cur, rfl, hb, hh, _⟩
  · simp [Value.ownBlock] at hg
  · simp only [Value.ownBlock, Option.some.injEq] at hg
    subst hg
    exact ⟨hb, cur, _, hh⟩
theorem OwR.shape {w : World} {base n : Nat} {v : Value} {xs : List Value} (h : OwR w base v n xs) : ∃ A c, v = .slice A n c ∧ n ≤ c ∧ c ≤ maxLen := by
  rcases h.2 with ⟨rfl, rfl⟩ | ⟨g, cap, cur, rfl, _, _, h1, h2, _⟩
  · exact ⟨_, _, rfl, Nat.le_refl _, Nat.zero_le _⟩
  · exact ⟨_, _, rfl, h1, h2⟩
theorem OwR.cellAt {w : World} {base n g c : Nat} {xs : List Value} (h : OwR w base (.slice (some ⟨g, 0, none⟩) n c) n xs) (j : Nat) (hj : j < n * 2) : w.cell? ⟨g, j, none⟩ = xs[j]? := by
  rcases h.2 with ⟨h', _⟩ | ⟨g', cap', cur, h', _, hg, _, _, _, ht⟩
  · simp at h'
  · simp only [Value.slice.injEq, Option.some.injEq, Addr.mk.injEq, and_true, true_and] at h'
    obtain ⟨rfl, rfl⟩ := h'
    rw [cell_cells hg, ← ht, List.getElem?_take_of_lt hj, Array.getElem?_toList]
theorem OwR.frozenAt {w : World} {base n g c : Nat} {xs : List Value} (h : OwR w base (.slice (some ⟨g, 0, none⟩) n c) n xs) (j : Nat) : w.frozen? ⟨g, j, none⟩ = false := by
  rcases h.2 with ⟨h', _⟩ | ⟨g', cap', cur, h', _, hg, _⟩
  · simp at h'
  · simp only [Value.slice.injEq, Option.some.injEq, Addr.mk.injEq, and_true, true_and] at h'
    obtain ⟨rfl, rfl⟩ := h'
    exact frozen_cells hg j
theorem OwR.at_ {w : World} {base n : Nat} {v : Value} {xs : List Value} (h : OwR w base v n xs) (hn : 0 < n) : ∃ g c, v = .slice (some ⟨g, 0, none⟩) n c ∧ n ≤ c ∧ base ≤ g := by
  rcases h.2 with ⟨_, h0⟩ | ⟨g, cap, cur, rfl, hb, _, h1, _⟩
  · omega
  · exact ⟨g, cap, rfl, h1, hb⟩
theorem OwR.stored {w : World} {base n g c : Nat} {xs : List Value} (h : OwR w base (.slice (some ⟨g, 0, none⟩) n c) n xs) (j : Nat) (u : Value) : OwR (w.setCell ⟨g, j, none⟩ u) base (.slice (some ⟨g, 0, none⟩) n c) n (xs.set j u) := by
  refine ⟨by rw [List.length_set]; exact h.1, ?_⟩
  rcases h.2 with ⟨h', _⟩ | ⟨g', cap', cur, h', hb, hg, h1, h2, h3, ht⟩
  · simp at h'
  · simp only [Value.slice.injEq, Option.some.injEq, Addr.mk.injEq, and_true, true_and] at h'
    obtain ⟨rfl, rfl⟩ := h'
    refine .inr ⟨g, c, _, rfl, hb, heap_set hg j u, h1, h2, by rw [Array.size_setIfInBounds]; exact h3, ?_⟩
    rw [← ht, Array.toList_setIfInBounds, List.take_set]
theorem skv_parts : ∃ i0, (Tryz.prog).info? 104 = some i0 ∧ i0.zero = some (.agg #[.slice none 0 0, .slice none 0 0]) ∧ i0.size = 2 ∧ i0.bytes = 48 := info_parts skv_info
theorem OwR.app {w : World} {base n : Nat} {v : Value} {xs : List Value} (h : OwR w base v n xs) (hb : base ≤ w.heap.size) (ad : Addr) (m c : Nat) (news : List Value) (hl : news.length = m * 2) (hnews : ∀ j u, news[j]? = some u → w.cell? (ad.add j) = some u)
    (h1 : ∀ u ∈ news, u.oneCell' = true) (hm : 0 < m) (h63 : n + m ≤ 1000000) (ty : TypeId) :
    ∃ v' w', (Builtin.append_ #[47, 47] ty #[v, .slice (some ad) m c]).run Tryz.prog w = .ok v' w' ∧ OwR w' base v' (n + m) (xs ++ news) ∧ w.grownBy w' v.ownBlock ∧ (∀ g, v'.ownBlock = some g → v.ownBlock = some g ∨ w.heap.size ≤ g) := by
  obtain ⟨i0, hi0, hz0, hz1, hz2⟩ := skv_parts
  have hml : n + m ≤ maxLen := by unfold maxLen; omega
  rcases h.2 with ⟨rfl, rfl⟩ | ⟨g, cap, cur, rfl, hbg, hg, hc1, hc2, hc3, ht⟩
  · obtain rfl : xs = [] := List.eq_nil_of_length_eq_zero (by simpa using h.1)
    obtain ⟨v', w', hrun, r1, r2, _⟩ := run_append_own (P := Tryz.prog) w w.heap.size 47 ty 104 i0 _ 2 48 Tryz.underlying47 hi0 hz0 hz1 hz2 rfl (by decide) (.slice none 0 0) 0 [] (World.ownsRow_nil w _ _ _) ad m c news hl hnews h1 (by omega) (by omega) (Nat.le_refl _)
    refine ⟨v', w', hrun, OwR.of_own (r1.mono hb), r2, fun g hg => .inr (own_row' r1 g hg).1⟩
  · by_cases hr : n + m ≤ cap
    · have hcell : ∀ j, j < news.length → (w.cell? ⟨g, 0 + n * i0.size + j, none⟩).isSome = true := fun j hj => by
        rw [hz1, cell_cells hg, Array.getElem?_eq_getElem (by omega)]; rfl
      have hrun := run_append_room_cells (P := Tryz.prog) w 47 ty 104 i0 Tryz.underlying47 hi0 g 0 n cap ad m c news (by rw [hz1]; exact hl) hnews h1 hr hcell (fun j _ => frozen_cells hg _)
      rw [hz1, Nat.zero_add] at hrun
      obtain ⟨cs', a1, a2, a3⟩ := heap_setCells news (n * 2) hg
      refine ⟨_, _, hrun, ⟨by rw [List.length_append, h.1, hl]; omega, .inr ⟨g, cap, cs', rfl, hbg, a1, hr, hc2, by rw [a2]; exact hc3, ?_⟩⟩, kp_setCells g news _ w, fun g' hg' => .inl hg'⟩
      apply List.ext_getElem?
      intro j
      have hxl := h.1
      by_cases hj : j < (n + m) * 2
      · rw [List.getElem?_take_of_lt hj, Array.getElem?_toList, a3]
        by_cases hj2 : n * 2 ≤ j
        · rw [if_pos (by omega), List.getElem?_append_right (by omega), hxl]
        · rw [if_neg (by omega), List.getElem?_append_left (by omega), ← ht, List.getElem?_take_of_lt (by omega), Array.getElem?_toList]
      · rw [List.getElem?_eq_none (by simp; omega), List.getElem?_eq_none (by rw [List.length_append]; omega)]
    · have hold : ∀ j u, xs[j]? = some u → w.cell? ((⟨g, 0, none⟩ : Addr).add j) = some u := fun j u hu => by
        have hj : j < n * 2 := by have := (List.getElem?_eq_some_iff.1 hu).1; have := h.1; omega
        rw [add_adr, Nat.zero_add, cell_cells hg, ← hu, ← ht, List.getElem?_take_of_lt hj, Array.getElem?_toList]
      obtain ⟨v', w', hrun, r1, r2⟩ := run_append_arg_grows (P := Tryz.prog) w 47 ty 104 i0 _ 2 48 Tryz.underlying47 hi0 hz0 hz1 hz2 rfl (by decide) ⟨g, 0, none⟩ n cap xs h.1 hold ad m c news hl hnews (by omega) hml (by omega)
      refine ⟨v', w', hrun, OwR.of_own (r1.mono hb), ⟨r2.os, r2.tape, r2.output, r2.size, fun k hk _ => r2.block k hk (by simp)⟩, fun g hg => .inr (own_row' r1 g hg).1⟩
/-- an element taken out: its head kept to itself, what is behind it appended -/
theorem OwR.del {w : World} {base n g cap k : Nat} {xs : List Value} (h : OwR w base (.slice (some ⟨g, 0, none⟩) n cap) n xs) (hb : base ≤ w.heap.size) (hk : k < n) (h1 : ∀ u ∈ xs, u.oneCell' = true) (hn : n ≤ 1000000) (ty : TypeId) :
    ∃ v' w', (Builtin.append_ #[47, 47] ty #[.slice (some ⟨g, 0, none⟩) k k, .slice (if cap = k + 1 then some ⟨g, 0, none⟩ else some ⟨g, (k + 1) * 2, none⟩) (n - (k + 1)) (cap - (k + 1))]).run Tryz.prog w = .ok v' w' ∧
      OwR w' base v' (n - 1) (xs.take (k * 2) ++ xs.drop ((k + 1) * 2)) ∧ w.grownBy w' (some g) ∧ (∀ g', v'.ownBlock = some g' → some g = some g' ∨ w.heap.size ≤ g') := by
  obtain ⟨i0, hi0, hz0, hz1, hz2⟩ := skv_parts
  have hml : n ≤ maxLen := by unfold maxLen; omega
  have hxl := h.1
  have hc := h.cellAt
  obtain ⟨hc1, hc2⟩ : n ≤ cap ∧ cap ≤ maxLen := by obtain ⟨A, c, e, h1, h2⟩ := h.shape; injection e with _ _ e; subst e; exact ⟨h1, h2⟩
  have hdl : (xs.drop ((k + 1) * 2)).length = (n - (k + 1)) * 2 := by rw [List.length_drop, hxl]; omega
  have htl : (xs.take (k * 2)).length = k * 2 := by rw [List.length_take, hxl]; omega
  by_cases hm : n = k + 1
  · have he : xs.drop ((k + 1) * 2) = [] := List.eq_nil_of_length_eq_zero (by rw [hdl, hm]; omega)
    have key : ∀ A : Addr, (Builtin.append_ #[47, 47] ty #[.slice (some ⟨g, 0, none⟩) k k, .slice (some A) 0 (cap - (k + 1))]).run Tryz.prog w = .ok (.slice (some ⟨g, 0, none⟩) (k + 0) k) w := fun A =>
      run_append_room_cells (P := Tryz.prog) w 47 ty 104 i0 Tryz.underlying47 hi0 g 0 k k A 0 (cap - (k + 1)) [] (by simp) (by simp) (by simp) (by omega) (by simp) (by simp)
    refine ⟨.slice (some ⟨g, 0, none⟩) k k, w, ?_, ?_, ⟨rfl, rfl, rfl, Nat.le_refl _, fun _ _ _ => rfl⟩, fun g' hg' => .inl hg'⟩
    · rw [show n - (k + 1) = 0 from by omega]
      split
      · exact key _
      · exact key _
    · rw [he, List.append_nil]
      refine ⟨by rw [htl, hm]; simp, .inr ?_⟩
      rcases h.2 with ⟨h', _⟩ | ⟨g', cap', cur, h', hbg, hg, _, _, h3, ht⟩
      · simp at h'
      · simp only [Value.slice.injEq, Option.some.injEq, Addr.mk.injEq, and_true, true_and] at h'
        obtain ⟨rfl, rfl⟩ := h'
        refine ⟨g, k, cur, by rw [hm]; rfl, hbg, hg, by omega, by omega, by omega, ?_⟩
        rw [← ht, List.take_take, show n - 1 = k from by omega, Nat.min_eq_left (by omega)]
  · have hcap : ¬ cap = k + 1 := by omega
    rw [if_neg hcap]
    obtain ⟨v', w', hrun, r1, r2⟩ := run_append_arg_grows (P := Tryz.prog) w 47 ty 104 i0 _ 2 48 Tryz.underlying47 hi0 hz0 hz1 hz2 rfl (by decide) ⟨g, 0, none⟩ k k (xs.take (k * 2)) htl (fun j u hu => by
        have hj : j < k * 2 := by have := (List.getElem?_eq_some_iff.1 hu).1; omega
        rw [add_adr, Nat.zero_add, hc j (by omega), ← hu, List.getElem?_take_of_lt hj]) ⟨g, (k + 1) * 2, none⟩ (n - (k + 1)) (cap - (k + 1)) (xs.drop ((k + 1) * 2)) hdl (fun j u hu => by
        have hj : j < (n - (k + 1)) * 2 := by have := (List.getElem?_eq_some_iff.1 hu).1; omega
        rw [add_adr, hc _ (by omega), ← hu, List.getElem?_drop]) (by omega) (by omega) (by omega)
    refine ⟨v', w', hrun, ?_, ⟨r2.os, r2.tape, r2.output, r2.size, fun k hk _ => r2.block k hk (by simp)⟩, fun g hg => .inr (own_row' r1 g hg).1⟩
    rw [show n - 1 = k + (n - (k + 1)) from by omega]
    exact OwR.of_own (r1.mono hb)
theorem Kq.of_owr {w w0 : World} {base : Nat} {v : Value} {xs : List Value} {l : KVs} (h : OwR w base v l.length xs) (k : PAll w0 xs l) (hle : Le w0 w) (hl : l.length ≤ 1099511627776) : Kq (fun _ => True) w v l := by
  rcases h.2 with ⟨rfl, hn⟩ | ⟨g, cap, cur, rfl, hg, hh, hle', hm, hs, ht⟩
  · obtain rfl : l = [] := List.eq_nil_of_length_eq_zero hn
    exact Kq.nil _ w
  · unfold maxLen at hm
    refine ⟨_, _, rfl, hle', hm, hl, fun _ => ⟨g, 0, rfl, trivial, fun j hj => ?_⟩⟩
    obtain ⟨x, y, a1, a2, a3, a4⟩ := k.2 j hj
    have b1 := (h.cellAt (j * 2) (by omega)).trans a1
    have b2 := (h.cellAt (j * 2 + 1) (by omega)).trans a2
    rw [Nat.zero_add]
    exact ⟨x, y, b1, b2, ⟨a3.le hle, fun _ _ => trivial⟩, ⟨a4.le hle, fun _ _ => trivial⟩⟩
theorem PAll.one {w : World} {xs : List Value} {l : KVs} (h : PAll w xs l) : ∀ u ∈ xs, u.oneCell' = true := by
  intro u hu
  obtain ⟨j, hj, rfl⟩ := List.getElem_of_mem hu
  have hl := h.1
  obtain ⟨x, y, a1, a2, a3, a4⟩ := h.2 (j / 2) (by omega)
  rcases Nat.mod_two_eq_zero_or_one j with e | e
  · rw [show j / 2 * 2 = j from by omega, List.getElem?_eq_getElem hj] at a1
    injection a1 with a1
    rw [a1]
    obtain ⟨A, c, rfl, _⟩ := a3
    rfl
  · rw [show j / 2 * 2 + 1 = j from by omega, List.getElem?_eq_getElem hj] at a2
    injection a2 with a2
    rw [a2]
    obtain ⟨A, c, rfl, _⟩ := a4
    rfl
theorem PAll.put {w : World} {xs : List Value} {l : KVs} (h : PAll w xs l) {j : Nat} (hj : j < l.length) {y : Value} {V : Tx} (hy : Bv w y V) {K : Tx} (hK : l[j].1 = K) : PAll w (xs.set (j * 2 + 1) y) (l.set j (K, V)) := by
  have hl := h.1
  refine ⟨by rw [List.length_set, List.length_set]; exact hl, fun i hi => ?_⟩
  rw [List.length_set] at hi
  obtain ⟨a, b, a1, a2, a3, a4⟩ := h.2 i hi
  by_cases e : i = j
  · subst e
    refine ⟨a, y, by rw [List.getElem?_set_ne (by omega)]; exact a1, by rw [List.getElem?_set_self (by omega)], ?_, ?_⟩
    · simpa [← hK] using a3
    · simpa using hy
  · refine ⟨a, b, by rw [List.getElem?_set_ne (by omega)]; exact a1, by rw [List.getElem?_set_ne (by omega)]; exact a2, ?_, ?_⟩
    · rw [List.getElem_set_ne (by omega)]; exact a3
    · rw [List.getElem_set_ne (by omega)]; exact a4
theorem PAll.del {w : World} {xs : List Value} {l : KVs} (h : PAll w xs l) {j : Nat} (hj : j < l.length) : PAll w (xs.take (j * 2) ++ xs.drop ((j + 1) * 2)) (l.eraseIdx j) := by
  have hl := h.1
  have hel : (l.eraseIdx j).length = l.length - 1 := by rw [List.length_eraseIdx, if_pos hj]
  refine ⟨by rw [List.length_append, List.length_take, List.length_drop, hel]; omega, fun i hi => ?_⟩
  rw [hel] at hi
  by_cases e : i < j
  · obtain ⟨a, b, a1, a2, a3, a4⟩ := h.2 i (by omega)
    refine ⟨a, b, ?_, ?_, ?_, ?_⟩
    · rw [List.getElem?_append_left (by rw [List.length_take]; omega), List.getElem?_take_of_lt (by omega)]; exact a1
    · rw [List.getElem?_append_left (by rw [List.length_take]; omega), List.getElem?_take_of_lt (by omega)]; exact a2
    · rw [List.getElem_eraseIdx_of_lt _ e]; exact a3
    · rw [List.getElem_eraseIdx_of_lt _ e]; exact a4
  · obtain ⟨a, b, a1, a2, a3, a4⟩ := h.2 (i + 1) (by omega)
    refine ⟨a, b, ?_, ?_, ?_, ?_⟩
    · rw [List.getElem?_append_right (by rw [List.length_take]; omega), List.length_take, List.getElem?_drop, show (j + 1) * 2 + (i * 2 - min (j * 2) xs.length) = (i + 1) * 2 from by omega]; exact a1
    · rw [List.getElem?_append_right (by rw [List.length_take]; omega), List.length_take, List.getElem?_drop, show (j + 1) * 2 + (i * 2 + 1 - min (j * 2) xs.length) = (i + 1) * 2 + 1 from by omega]; exact a2
    · rw [List.getElem_eraseIdx_of_ge _ (by omega)]; exact a3
    · rw [List.getElem_eraseIdx_of_ge _ (by omega)]; exact a4
theorem rm_dk {l : KVs} (h : DK l) {k : Tx} {j : Nat} (hj : j < l.length) (hk : l[j].1 = k) : rmK l k = l.eraseIdx j := by
  rw [← rm_erase hj hk]
  unfold rmK
  rw [List.filter_eq_self]
  intro x hx
  obtain ⟨i, hi, rfl⟩ := List.getElem_of_mem hx
  have hel : (l.eraseIdx j).length = l.length - 1 := by rw [List.length_eraseIdx, if_pos hj]
  have hp := List.pairwise_iff_getElem.1 h
  simp only [Bool.not_eq_true', decide_eq_false_iff_not]
  by_cases e : i < j
  · rw [List.getElem_eraseIdx_of_lt _ e, ← hk]
    exact hp i j (by omega) hj e
  · rw [List.getElem_eraseIdx_of_ge _ (by omega), ← hk]
    exact fun e2 => hp j (i + 1) hj (by omega) (by omega) e2.symm
/-- the cells of a list of pairs -/
theorem kq_cells {φ : Nat → Prop} {w : World} {A : Option Addr} {c : Nat} {l : KVs} (h : Kq φ w (.slice A l.length c) l) (hn : 0 < l.length) : ∃ g o xs, A = some ⟨g, o, none⟩ ∧ PAll w xs l ∧ ∀ j u, xs[j]? = some u → w.cell? ⟨g, o + j, none⟩ = some u := by
  obtain ⟨g, o, hA, _⟩ := h.at_ hn
  subst hA
  have key : ∀ k, k ≤ l.length → ∃ xs, PAll w xs (l.take k) ∧ ∀ j u, xs[j]? = some u → w.cell? ⟨g, o + j, none⟩ = some u := by
    intro k
    induction k with
    | zero => intro _; exact ⟨[], PAll.nil w, fun j u h => by simp at h⟩
    | succ k ih =>
      intro hk
      obtain ⟨xs, h1, h2⟩ := ih (by omega)
      obtain ⟨g', o', e, x, y, d1, d2, X, Y⟩ := h.at_ (show k < l.length by omega)
      injection e with e
      injection e with e1 e2
      subst e1
      subst e2
      refine ⟨xs ++ [x, y], ?_, fun j u hu => ?_⟩
      · rw [List.take_succ_eq_append_getElem (by omega)]
        exact h1.snoc X.out Y.out
      · have hxl : xs.length = k * 2 := by have := h1.1; rw [List.length_take] at this; omega
        by_cases hj : j < xs.length
        · rw [List.getElem?_append_left hj] at hu; exact h2 j u hu
        · rw [List.getElem?_append_right (by omega)] at hu
          by_cases e0 : j - xs.length = 0
          · rw [e0] at hu
            obtain rfl : x = u := by simpa using hu
            rw [show o + j = o + k * 2 from by omega]; exact d1
          · by_cases e1 : j - xs.length = 1
            · rw [e1] at hu
              obtain rfl : y = u := by simpa using hu
              rw [show o + j = o + k * 2 + 1 from by omega]; exact d2
            · rw [List.getElem?_eq_none (by simp; omega)] at hu; cases hu
  obtain ⟨xs, h1, h2⟩ := key l.length (Nat.le_refl _)
  rw [List.take_length] at h1
  exact ⟨g, o, xs, rfl, h1, h2⟩
/-- append([]KV(nil), l...) -/
theorem app_all {φ : Nat → Prop} {w W : World} {A : Option Addr} {c : Nat} {l : KVs} (h : Kq φ w (.slice A l.length c) l) (hl : l.length ≤ 10000) (hle : Le w W) (ty : TypeId) :
    ∃ v' W', (Builtin.append_ #[47, 47] ty #[.slice none 0 0, .slice A l.length c]).run Tryz.prog W = .ok v' W' ∧ (∃ xs, OwR W' w.heap.size v' l.length xs ∧ PAll w xs l) ∧ Le w W' := by
  rcases Nat.eq_zero_or_pos l.length with h0 | hn
  · obtain ⟨i0, hi0, hz0, hz1, hz2⟩ := skv_parts
    obtain rfl : l = [] := List.eq_nil_of_length_eq_zero h0
    refine ⟨.slice none 0 0, W, ?_, ⟨[], OwR.of_own (World.ownsRow_nil _ _ _ _), PAll.nil w⟩, hle⟩
    refine run_append_nothing (P := Tryz.prog) W 47 47 ty 104 i0 Tryz.underlying47 hi0 none 0 0 (Nat.le_refl _) _ ?_
    cases A with
    | none => exact Src.ofNil W Tryz.underlying47 c
    | some a => exact Src.ofSlice W Tryz.underlying47 a 0 c [] (by simp) (by simp) (by simp)
  · obtain ⟨g, o, xs, rfl, hp, hc⟩ := kq_cells h hn
    obtain ⟨v', W', hrun, h1, h2, _⟩ := (OwR.of_own (World.ownsRow_nil W w.heap.size 104 2)).app hle.size ⟨g, o, none⟩ l.length c xs hp.1 (fun j u hu => by rw [add_adr]; exact hle.cell (hc j u hu)) hp.one hn (by omega) ty
    refine ⟨v', W', hrun, ⟨xs, ?_, hp⟩, Below.grown' hle h2 (Nat.le_refl _) (fun g hg => by simp [Value.ownBlock] at hg)⟩
    rw [Nat.zero_add, List.nil_append] at h1
    exact h1
/-- an append whose run is known -/
theorem wpList_append_run {P : Program} {ops : Array Oper} {rest : List Oper} {o : Oper} {a : Act} {w : World} {Q : Exit → Act → World → Prop}
    (hg : o.guard = none) (s x : Operand) (t : TypeId) (hop : o.op = Op.call { callee := Callee.builtin Builtin.append, args := #[s, x], argTypes := #[t, t] })
    (sv xv : Value) (hs : a.eval s = sv) (hx : a.eval x = xv) (v : Value) (w' : World) (hrun : (Builtin.append_ #[t, t] o.type #[sv, xv]).run P w = .ok v w') (h : wpList P ops Q rest (a.put o.dst v) w') : wpList P ops Q (o :: rest) a w :=
  wpList_plain hg fun K hK => by
    unfold Oper.wp
    simp [execOp, hop, resolve, invoke, builtin, hs, hx, hrun, Result.andThen]
    exact hK _ _ h
end Go.Proofs.YtgelnjcjpkklbaaGreatDoor
