/- Contracts: one parameter taken out of a row of the call's own; Remove. -/
import Derived.Test.YtgelnjcjpkklbaaGreatDoorGet
import Derived.Test.YtgelnjcjpkklbaaGreatDoorUnm
import Derived.Deep.RegionLaw
import Derived.IntWalk
import Derived.Lib.SliceRun
import Derived.Laws.IdiomCopy
set_option linter.unusedVariables false
set_option linter.unusedSimpArgs false
namespace Go.Proofs.YtgelnjcjpkklbaaGreatDoor
open Go.RowKit

theorem heap_setCells {b : Nat} {T : TypeId} {fz : Nat × Nat} : ∀ (vs : List Value) (o : Nat) {w : World} {cs : Array Value}, w.heap[b]? = some (.cells cs T fz) → ∃ cs', (w.setCells b o vs).heap[b]? = some (.cells cs' T fz) ∧ cs'.size = cs.size ∧
    ∀ j, cs'[j]? = if o ≤ j ∧ j < o + vs.length ∧ j < cs.size then vs[j - o]? else cs[j]?
  | [], o, w, cs, h => ⟨cs, h, rfl, fun j => by rw [if_neg]; simp; omega⟩
  | v :: r, o, w, cs, h => by
    obtain ⟨cs', h1, h2, h3⟩ := heap_setCells r (o + 1) (heap_set h o v)
    refine ⟨cs', h1, by rw [h2, Array.size_setIfInBounds], fun j => ?_⟩
    rw [h3, Array.size_setIfInBounds, List.length_cons]
    by_cases e : j = o
    · subst e
      rw [if_neg (by omega)]
      by_cases hj : j < cs.size
      · rw [if_pos (by omega), Nat.sub_self, Array.getElem?_setIfInBounds_self_of_lt hj]; rfl
      · rw [if_neg (by omega), Array.getElem?_eq_none (by rw [Array.size_setIfInBounds]; omega), Array.getElem?_eq_none (by omega)]
    · rw [Array.getElem?_setIfInBounds_ne (by omega)]
      by_cases hc : o + 1 ≤ j ∧ j < o + 1 + r.length ∧ j < cs.size
      · rw [if_pos hc, if_pos (by omega), show j - o = (j - (o + 1)) + 1 from by omega]; rfl
      · rw [if_neg hc, if_neg (by omega)]
theorem kp_setCells (b : Nat) : ∀ (vs : List Value) (o : Nat) (w : World), Kp b w (w.setCells b o vs)
  | [], _, w => Kp.refl b w
  | v :: r, o, w => (kp_set w b o v).trans (kp_setCells b r (o + 1) _)
theorem hkv_zero (w : World) : (zeroValue 142).run Tryz.prog w = .ok (.agg #[.string ⟨#[]⟩, .string ⟨#[]⟩]) w := by kernel_rfl
theorem run_clear1 (w : World) (ty : TypeId) (b o c : Nat) (hc : ∀ j, j < 2 → (w.cell? ⟨b, o + j, none⟩).isSome = true) (hf : ∀ j, j < 2 → w.frozen? ⟨b, o + j, none⟩ = false) :
    (Builtin.clear_ #[91] ty #[.slice (some ⟨b, o, none⟩) 1 c]).run Tryz.prog w = .ok (.tuple #[]) (w.setCells b o [.string ⟨#[]⟩, .string ⟨#[]⟩]) := by
  have hst := run_storeCells_cells (P := Tryz.prog) b o [.string ⟨#[]⟩, .string ⟨#[]⟩] 0 w (by simpa using hc) (by simpa using hf) (by intro v hv'; simp only [List.mem_cons, List.mem_nil_iff, or_false] at hv'; rcases hv' with rfl | rfl <;> rfl)
  simp only [Nat.add_zero] at hst
  have hzc : (Builtin.zeroCells (Value.agg #[.string ⟨#[]⟩, .string ⟨#[]⟩]).cells 1).toList = [.string ⟨#[]⟩, .string ⟨#[]⟩] := by kernel_rfl
  simp [Builtin.clear_, run_underlying Tryz.underlying91, hkv_zero, hzc, hst]
theorem kvCells_split (l : KVs) (i : Nat) (h : i < l.length) : kvCells l = kvCells (l.take i) ++ (.string (st l[i].1) :: .string (st l[i].2) :: kvCells (l.drop (i + 1))) := by
  conv => lhs; rw [← List.take_append_drop i l, List.drop_eq_getElem_cons h]
  rw [kvCells_append]
  rfl
theorem kvCells_one (l : KVs) : ∀ u ∈ kvCells l, u.oneCell' = true := by
  induction l with
  | nil => intro u hu; cases hu
  | cons x r ih =>
    intro u hu
    simp only [kvCells, List.mem_cons] at hu
    rcases hu with rfl | rfl | hu
    · rfl
    · rfl
    · exact ih u hu
/-- the row behind it -/
theorem del_row {w W : World} {base g cap i m : Nat} {cur : Array Value} {l : KVs} {fz : Nat × Nat} (hl : l.length = i + (m + 1)) (hg : w.heap[g]? = some (.cells cur 142 fz)) (hbg : base ≤ g) (hfz : fz = (0, 0)) (hnc : l.length ≤ cap) (hcm : cap ≤ maxLen) (hcs : cur.size = cap * 2)
    (htk : cur.toList.take (l.length * 2) = kvCells l) (hW : W = (w.setCells g (i * 2) (kvCells (l.drop (i + 1)))).setCells g ((i + m) * 2) [.string ⟨#[]⟩, .string ⟨#[]⟩]) :
    W.ownsRow base 142 2 (.slice (some ⟨g, 0, none⟩) (i + m) cap) (l.eraseIdx i).length (kvCells (l.eraseIdx i)) ∧ Kp g w W := by
  subst hfz
  obtain ⟨c1, a1, a2, a3⟩ := heap_setCells (kvCells (l.drop (i + 1))) (i * 2) hg
  obtain ⟨c2, b1, b2, b3⟩ := heap_setCells [.string ⟨#[]⟩, .string ⟨#[]⟩] ((i + m) * 2) a1
  have hBl : (kvCells (l.drop (i + 1))).length = m * 2 := by rw [kvCells_length, List.length_drop]; omega
  have hAl : (kvCells (l.take i)).length = i * 2 := by rw [kvCells_length, List.length_take]; omega
  have hel : (l.eraseIdx i).length = i + m := by rw [List.length_eraseIdx]; split <;> omega
  have hek : kvCells (l.eraseIdx i) = kvCells (l.take i) ++ kvCells (l.drop (i + 1)) := by rw [List.eraseIdx_eq_take_drop_succ, kvCells_append]
  refine ⟨⟨by rw [kvCells_length], .inr ⟨g, cap, c2, by rw [hel], hbg, by rw [hW]; exact b1, by omega, hcm, by rw [b2, a2, hcs], ?_⟩⟩, ?_⟩
  · rw [hel, hek]
    apply List.ext_getElem?
    intro j
    by_cases hj : j < (i + m) * 2
    · rw [List.getElem?_take_of_lt hj, Array.getElem?_toList, b3, if_neg (by omega), a3]
      by_cases hj2 : i * 2 ≤ j
      · rw [if_pos (by omega), List.getElem?_append_right (by omega), hAl]
      · rw [if_neg (by omega), List.getElem?_append_left (by omega)]
        have h1 : cur[j]? = (kvCells l)[j]? := by rw [← htk, List.getElem?_take_of_lt (by omega), Array.getElem?_toList]
        rw [h1, kvCells_split l i (by omega), List.getElem?_append_left (by omega)]
    · rw [List.getElem?_eq_none (by simp; omega), List.getElem?_eq_none (by rw [List.length_append]; omega)]
  · rw [hW]
    exact (kp_setCells g _ _ w).trans (kp_setCells g _ _ _)
set_option maxRecDepth 8000 in
set_option maxHeartbeats 2000000 in
theorem delete_c (base : Nat) (w : World) (v : Value) (l : KVs) (i : Nat) (z : Int) (hz : z = ((i + 1 : Nat) : Int)) (hi : i < l.length) (hown : w.ownsRow base 142 2 v l.length (kvCells l)) :
    Calls Tryz.prog 107 #[v, .int .i64 i, .int .i64 z] w fun e w' => ∃ v', e = .returned v' ∧ w'.ownsRow base 142 2 v' (l.eraseIdx i).length (kvCells (l.eraseIdx i)) ∧ w.grownBy w' v.ownBlock := by
  subst hz
  obtain ⟨m, hm⟩ : ∃ m, l.length = i + (m + 1) := ⟨l.length - (i + 1), by omega⟩
  obtain ⟨i0, hi0, hz0, hz1, hz2⟩ := info_parts kv_info
  rcases hown.2 with ⟨rfl, h5⟩ | ⟨g, cap, cur, rfl, hbg, hg, hnc, hcm, hcs, htk⟩
  · omega
  have hcm' : cap ≤ 9223372036854775807 := by unfold maxLen at hcm; omega
  have hBl : (kvCells (l.drop (i + 1))).length = m * 2 := by rw [kvCells_length, List.length_drop]; omega
  have hcell : ∀ j, j < l.length * 2 → w.cell? ⟨g, j, none⟩ = (kvCells l)[j]? := fun j hj => by
    rw [cell_cells hg j, ← htk, List.getElem?_take_of_lt hj, Array.getElem?_toList]
  have hAl : (kvCells (l.take i)).length = i * 2 := by rw [kvCells_length, List.length_take]; omega
  obtain ⟨A, hA, hsrc⟩ : ∃ A : Addr, (if cap = i + 1 then (some (⟨g, 0, none⟩ : Addr)) else some ⟨g, (i + 1) * 2, none⟩) = some A ∧ Hid (∀ t u, (kvCells (l.drop (i + 1)))[t]? = some u → w.drew.cell? (A.add t) = some u) := by
    by_cases h : cap = i + 1
    · refine ⟨⟨g, 0, none⟩, by rw [if_pos h], Lib.hid (fun t u hu => ?_)⟩
      have := (List.getElem?_eq_some_iff.1 hu).1
      omega
    · refine ⟨⟨g, (i + 1) * 2, none⟩, by rw [if_neg h], Lib.hid (fun t u hu => ?_)⟩
      have ht : t < m * 2 := by have := (List.getElem?_eq_some_iff.1 hu).1; omega
      rw [add_adr]
      show w.cell? _ = _
      rw [hcell _ (by omega), kvCells_split l i hi, List.getElem?_append_right (by omega), hAl, show (i + 1) * 2 + t - i * 2 = t + 1 + 1 from by omega]
      exact hu
  have s1 : Hid ((kvCells (l.drop (i + 1))).length = m * 2) := Lib.hid hBl
  have s2 : Hid (∀ u ∈ kvCells (l.drop (i + 1)), u.oneCell' = true) := Lib.hid (kvCells_one _)
  have s3 : Hid (∀ t, t < (kvCells (l.drop (i + 1))).length → (w.drew.cell? ⟨g, 0 + i * 2 + t, none⟩).isSome = true ∧ w.drew.frozen? ⟨g, 0 + i * 2 + t, none⟩ = false) := Lib.hid (fun t ht => by
    rw [hBl] at ht
    refine ⟨?_, frozen_cells (w := w.drew) hg _⟩
    show (w.cell? _).isSome = true
    rw [hcell _ (by omega), List.getElem?_eq_getElem (by rw [kvCells_length]; omega)]
    rfl)
  obtain ⟨W1, hW1⟩ : ∃ W1, W1 = w.drew.setCells g (0 + i * 2) (kvCells (l.drop (i + 1))) := ⟨_, rfl⟩
  obtain ⟨c1, a1, a2, a3⟩ := heap_setCells (w := w.drew) (kvCells (l.drop (i + 1))) (0 + i * 2) hg
  rw [← hW1] at a1
  have hcl : ∀ ty, (Builtin.clear_ #[91] ty #[.slice (some ⟨g, (i + m) * 2, none⟩) 1 (cap - (i + m))]).run Tryz.prog W1 = .ok (.tuple #[]) (W1.setCells g ((i + m) * 2) [.string ⟨#[]⟩, .string ⟨#[]⟩]) := fun ty =>
    run_clear1 W1 ty g ((i + m) * 2) (cap - (i + m)) (fun j hj => by rw [cell_cells a1, Array.getElem?_eq_getElem (by rw [a2, hcs]; omega)]; rfl) (fun j hj => frozen_cells a1 _)
  have hrow := del_row (w := w.drew) (W := W1.setCells g ((i + m) * 2) [.string ⟨#[]⟩, .string ⟨#[]⟩]) (base := base) hm hg hbg rfl hnc hcm hcs htk (by rw [hW1, Nat.zero_add])
  have HROW := Lib.hid (⟨hrow.1, (((Le.refl w).drew).kp g).trans hrow.2⟩ : _ ∧ Kp g w _)
  have HW := Lib.hid hW1
  have hic : i ≤ cap := by omega
  have hjc : i + 1 ≤ cap := by omega
  have hne : ((i : Int) == ((i + 1 : Nat) : Int)) = false := by rw [beq_eq_false_iff_ne]; omega
  clear hW1 a1 a2 a3 hrow hcell hBl hAl hg hcs htk hown
  have hp1 : (0 : Int) ≤ (i : Int) + 1 := by omega
  have hp2 : (1 : Int) ≤ (m : Int) + 1 := by omega
  have hp3 : i + (m + 1) - (i + 1) = m := by omega
  have hp4 : i + (m + 1) - (i + m) = 1 := by omega
  rw [hm]
  go_enter Tryz.func107, Tryz.ntmps107
  go_upto_region 5 with fail
  go_region_law (refine step_append_room rfl (.tmp 22) (.tmp 25) 91 rfl 142 i0 2 Tryz.underlying91 hi0 hz1 g 0 i cap (by simp [Act.eval, Act.put]) A m (cap - (i + 1)) (kvCells (l.drop (i + 1))) (by simp [Act.eval, Act.put]) s1.out hsrc.out s2.out (by omega) s3.out ?_; rw [← HW.out])
  go_wp2
  go_ret
  exact ⟨_, rfl, HROW.out.1, HROW.out.2⟩

/-! ### Remove -/
def rmK (l : KVs) (k : Tx) : KVs := l.filter (fun x => !decide (x.1 = k))
theorem rm_none {l : KVs} {k : Tx} (h : kInt l k = -1) : rmK l k = l := by
  unfold rmK
  rw [List.filter_eq_self]
  intro x hx
  have h1 : ¬ kIdx l k < l.length := by
    intro h2
    unfold kInt at h
    rw [if_pos h2] at h
    omega
  have h2 : ¬ x.1 = k := fun e => h1 (List.findIdx_lt_length_of_exists ⟨x, hx, by simpa using e⟩)
  simpa using h2
theorem rm_erase {l : KVs} {k : Tx} {i : Nat} (hi : i < l.length) (hk : l[i].1 = k) : rmK (l.eraseIdx i) k = rmK l k := by
  unfold rmK
  rw [List.eraseIdx_eq_take_drop_succ]
  conv => rhs; rw [← List.take_append_drop i l, List.drop_eq_getElem_cons hi]
  rw [List.filter_append, List.filter_append, List.filter_cons_of_neg (by simp [hk])]
theorem pat_x {w : World} {base b o : Nat} {T : TypeId} {cs : Array Value} {l : KVs} {v x : Value} (h : (cs.setIfInBounds o v)[o]? = some x) : cs.setIfInBounds o v = cs.setIfInBounds o x := by
  have ho : o < cs.size := by
    rcases Nat.lt_or_ge o cs.size with h1 | h1
    · exact h1
    · rw [Array.getElem?_eq_none (by rw [Array.size_setIfInBounds]; exact h1)] at h; cases h
  rw [Array.getElem?_setIfInBounds_self_of_lt ho] at h
  injection h with h
  rw [h]
set_option maxRecDepth 8000 in
set_option maxHeartbeats 2000000 in
theorem remove_c (base b o : Nat) (T : TypeId) (cs : Array Value) (l : KVs) (k : Tx) (w : World) (h : PAx w base b o T cs l) (hT : T ≠ 142) (hbase : base ≤ w.heap.size)
    (hl : l.length ≤ 1099511627775) (hm : ∀ x ∈ l, x.1.length ≤ 1099511627776 ∧ x.2.length ≤ 1099511627776) :
    Calls Tryz.prog 77 #[.pointer (some ⟨b, o, none⟩), .string (st k)] w (AddPost base b o T cs (rmK l k) w) := by
  have HP := Lib.hid h
  have HM := Lib.hid hm
  clear h hm
  go_enter Tryz.func77, Tryz.ntmps77
  go_wp2
  go_loopg [5] (l.length) (fun n _ wr => ∃ l' : KVs, (n ≤ l'.length ∧ l'.length ≤ n) ∧ l'.length ≤ 1099511627775 ∧ Hid (rmK l' k = rmK l k) ∧ Hid (∀ x ∈ l', x.1.length ≤ 1099511627776 ∧ x.2.length ≤ 1099511627776) ∧ Hid (PAx wr base b o T cs l') ∧ Hid (PFr base b w wr))
  case atStart => exact ⟨l, ⟨Nat.le_refl _, Nat.le_refl _⟩, hl, Lib.hid rfl, HM, HP, Lib.hid (PFr.refl _ _ _)⟩
  case round =>
    obtain ⟨l', hn, hl', HE, HM', HPA, HF⟩ := hrel
    obtain ⟨v0, x, hx, hb, hown⟩ := HPA.out
    have hcs := pat_x (w := wr) (base := base) (b := b) (T := T) (l := l') hx
    rw [hcs] at hb hx
    have hbs : base ≤ wr.heap.size := Nat.le_trans hbase HF.out.size
    have hcell : wr.cell? ⟨b, o, none⟩ = some x := (cell_cells hb o).trans hx
    have hHp := Hp.of_own hown (by omega) HM'.out
    obtain ⟨c, A, rfl⟩ : ∃ c A, x = .slice A l'.length c := by obtain ⟨A, c, e, _⟩ := hHp; exact ⟨c, A, e⟩
    have HOWN := Lib.hid hown
    have HB := Lib.hid hb
    have HX := Lib.hid hx
    have HHP := Lib.hid hHp
    clear hb hx hown hHp hcs
    go_wp2_with fail
    refine (index_c _ _ _ _ HHP.out).mono ?_
    rintro e w1 ⟨rfl, hle1⟩
    have HLE1 := Lib.hid hle1
    have c1 := hle1.cell hcell
    have HOWN1 : Hid (w1.ownsRow base 142 2 (.slice A l'.length c) l'.length (kvCells l')) := Lib.hid (own_le HOWN.out hle1)
    have HB1 := Lib.hid (hle1.heap HB.out)
    clear hle1 hcell
    rcases kInt_range l' k with ⟨i, hi, hil, hik⟩ | hno
    · rw [hi]
      have hneg : decide ((i : Int) < 0) = false := decide_eq_false (by omega)
      have hib : (i : Int) ≤ 1099511627776 := by omega
      have HER := Lib.hid (rm_erase hil hik)
      have HEL : Hid ((l'.eraseIdx i).length + 1 = l'.length) := Lib.hid (by rw [List.length_eraseIdx, if_pos hil]; omega)
      have HMM : Hid (∀ x ∈ l'.eraseIdx i, x.1.length ≤ 1099511627776 ∧ x.2.length ≤ 1099511627776) := Lib.hid (fun x hx => HM'.out x (List.mem_of_mem_eraseIdx hx))
      have HIL := Lib.hid hil
      clear hi hik hil
      go_wp2_with fail
      refine (delete_c base w1 _ l' i _ (by omega) HIL.out HOWN1.out).mono ?_
      rintro e w2 ⟨v2, rfl, hown2, hgrow2⟩
      have hnb := own_not HOWN1.out HB1.out hT
      have hb2 : w2.heap[b]? = some (.cells (cs.setIfInBounds o (.slice A l'.length c)) T (0, 0)) := (hgrow2.block b (lt_of_heap HB1.out) hnb).trans HB1.out
      have q1 : w2.cell? ⟨b, o, none⟩ = some (.slice A l'.length c) := (cell_cells hb2 o).trans HX.out
      have q2 : w2.frozen? ⟨b, o, none⟩ = false := frozen_cells hb2 o
      have hHp2 := Hp.of_own hown2 (by have := HEL.out; omega) HMM.out
      obtain ⟨n2, c2, A2, rfl⟩ : ∃ n c A, v2 = .slice A n c := by obtain ⟨A, c, e, _⟩ := hHp2; exact ⟨_, c, A, e⟩
      have HB2 := Lib.hid hb2
      have HOWN2 := Lib.hid hown2
      have HPF : Hid (PFr base b w w2) := Lib.hid ((HF.out.le HLE1.out hbase).grown hgrow2 hbase (fun g hg => own_row HOWN1.out g hg))
      clear hown2 hgrow2 hnb hb2 hHp2 c1
      go_wp2
      go_roundg (gk - 1)
      case measure => have := HEL.out; omega
      case rel =>
        refine ⟨l'.eraseIdx i, by have := HEL.out; omega, by have := HEL.out; omega, Lib.hid (HER.out.trans HE.out), HMM, Lib.hid ⟨.slice A2 n2 c2, .slice A2 n2 c2, ?_, ?_, ?_⟩, Lib.hid (HPF.out.set o _)⟩
        · have ho : o < cs.size := by
            have h := HX.out
            rcases Nat.lt_or_ge o cs.size with h1 | h1
            · exact h1
            · rw [Array.getElem?_eq_none (by rw [Array.size_setIfInBounds]; exact h1)] at h; cases h
          rw [Array.getElem?_setIfInBounds_self_of_lt ho]
        · rw [heap_set HB2.out, set_set]
        · exact HOWN2.out.kept (row := some b) (kp_set _ _ _ _) (.inr (fun e => own_not HOWN2.out HB2.out hT e.symm))
    · rw [hno]
      have HR : Hid (rmK l k = l') := Lib.hid (HE.out.symm.trans (rm_none hno))
      clear hno
      go_wp2
      go_ret
      refine ⟨_, rfl, ?_, HF.out.le HLE1.out hbase⟩
      rw [HR.out]
      exact ⟨_, HX.out, HB1.out, HOWN1.out⟩
end Go.Proofs.YtgelnjcjpkklbaaGreatDoor
