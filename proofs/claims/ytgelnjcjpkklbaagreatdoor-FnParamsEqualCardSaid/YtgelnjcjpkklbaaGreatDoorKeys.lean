/- Contracts: the keys of parameters: slices.Index, slices.Contains, HeaderParams.Keys, impl.Keys. -/
import Derived.Test.YtgelnjcjpkklbaaGreatDoorOwr
import Derived.Test.YtgelnjcjpkklbaaGreatDoorUriOf
import Derived.OwnWalk
set_option linter.unusedVariables false
set_option linter.unusedSimpArgs false
namespace Go.Proofs.YtgelnjcjpkklbaaGreatDoor
open Go.RowKit

/-- a row of strings -/
def strs (l : List Tx) : List Value := l.map fun k => Value.string (st k)
theorem strs_len (l : List Tx) : (strs l).length = l.length := by unfold strs; rw [List.length_map]
theorem strs_at {l : List Tx} {j : Nat} (h : j < l.length) : (strs l)[j]? = some (.string (st l[j])) := by unfold strs; rw [List.getElem?_map, List.getElem?_eq_getElem h]; rfl
theorem sti_info : ((Tryz.prog).info? 9).map (fun i => (i.zero, i.size, i.bytes)) = some (some (.string ⟨#[]⟩), 1, 16) := by kernel_rfl
theorem str_cell {w : World} {base : Nat} {v : Value} {l : List Tx} (h : w.ownsRow base 9 1 v l.length (strs l)) {j : Nat} (hj : j < l.length) : ∃ g c, v = .slice (some ⟨g, 0, none⟩) l.length c ∧ w.cell? ⟨g, j, none⟩ = some (.string (st l[j])) ∧ l.length ≤ c := by
  have h0 := h
  rcases h.2 with ⟨_, hn⟩ | ⟨g, cap, cur, rfl, hg, hh, hle', _⟩
  · omega
  · refine ⟨g, cap, rfl, ?_, hle'⟩
    have := h0.cells (g := g) rfl j _ (strs_at hj)
    rw [add_adr, Nat.zero_add] at this
    exact this
set_option maxRecDepth 4000 in
set_option maxHeartbeats 2000000 in
/-- the key is in none: -1 -/
theorem index_s (base : Nat) (w : World) (v : Value) (l : List Tx) (key : Tx) (hown : w.ownsRow base 9 1 v l.length (strs l)) (hl : l.length ≤ 100000) (hne : ∀ x ∈ l, x ≠ key) :
    Calls Tryz.prog 126 #[v, .string (st key)] w fun e w' => e = .returned (.int .i64 (-1)) ∧ w = w' := by
  have HO := Lib.hid hown
  have HNE := Lib.hid hne
  obtain ⟨A, c, rfl⟩ : ∃ A c, v = .slice A l.length c := by
    rcases hown.2 with ⟨e, hn⟩ | ⟨g, cap, cur, e, _⟩
    · exact ⟨none, 0, by rw [e, hn]⟩
    · exact ⟨_, _, e⟩
  clear hown hne
  go_enter Tryz.func126, Tryz.ntmps126
  go_wp2
  go_loop [8] (fun i => ∃ k : Nat, k ≤ l.length ∧ i = .int .i64 k) (fun i => l.length - (intOf i).toNat)
  case atStart => exact ⟨0, Nat.zero_le _, rfl⟩
  case round =>
    obtain ⟨k, hkl, rfl⟩ := hrel
    by_cases hlt : k < l.length
    · obtain ⟨g, c', hv, hc, hcc⟩ := str_cell HO.out hlt
      injection hv with hv1 _ hv2
      subst hv1
      subst hv2
      have hb : ((st key).toList == (st l[k]).toList) = false := by rw [st_beq2]; exact decide_eq_false (fun e => HNE.out l[k] (List.getElem_mem hlt) e.symm)
      go_wp2
      go_round
      case rel => exact ⟨k + 1, by omega, by go_num⟩
      case measure => simp [intOf]; omega
    · go_wp2
      go_ret
      exact ⟨rfl, rfl⟩
set_option maxHeartbeats 1000000 in
theorem contains_s (base : Nat) (w : World) (v : Value) (l : List Tx) (key : Tx) (hown : w.ownsRow base 9 1 v l.length (strs l)) (hl : l.length ≤ 100000) (hne : ∀ x ∈ l, x ≠ key) :
    Calls Tryz.prog 109 #[v, .string (st key)] w fun e w' => e = .returned (.bool false) ∧ w = w' := by
  have HC := Lib.hid (index_s base w v l key hown hl hne)
  go_enter Tryz.func109, Tryz.ntmps109
  go_wp2_with fail
  refine HC.out.mono ?_
  rintro e w' ⟨rfl, rfl⟩
  go_wp2
  go_ret
  exact ⟨rfl, rfl⟩
theorem strs_take {l : KVs} {k : Nat} (h : k < l.length) : strs ((l.take (k + 1)).map (·.1)) = strs ((l.take k).map (·.1)) ++ [.string (st l[k].1)] := by
  rw [List.take_succ_eq_append_getElem h, List.map_append]; unfold strs; rw [List.map_append]; rfl
set_option maxRecDepth 4000 in
set_option maxHeartbeats 2000000 in
theorem keys_c (w : World) (v : Value) (l : KVs) (hp : Hp w v l) (hd : DK l) (hll : l.length ≤ 100000) :
    Calls Tryz.prog 83 #[v] w fun e w' => ∃ v', e = .returned v' ∧ w'.ownsRow w.heap.size 9 1 v' l.length (strs (l.map (·.1))) ∧ Le w w' := by
  obtain ⟨A, c, rfl, hc1, hc2, hl, _, hr⟩ := hp
  have HR := Lib.hid hr
  have HD := Lib.hid hd
  clear hr hd
  obtain ⟨i0, hi0, hz0, hz1, hz2⟩ := info_parts sti_info
  go_enter Tryz.func83, Tryz.ntmps83
  go_wp2_with (at_make; refine wpList_make_own _ rfl _ _ 122 rfl w.heap.size 9 i0 (.string ⟨#[]⟩) 1 Tryz.underlying122 hi0 hz0 hz1 _ _ _ l.length rfl rfl rfl ?b2 ?b3 (Nat.le_refl _) ?_)
  case b2 => rw [hz2]; omega
  case b3 => unfold maxLen; omega
  intro w1 hown1 hgrow1
  have HO1 := Lib.hid hown1
  have HLE1 : Hid (Le w w1) := Lib.hid (Below.grown' (Le.refl w) hgrow1 (Nat.le_refl _) (fun g hg => by cases hg))
  clear hown1 hgrow1
  go_wp2
  go_loopg [3, 11] (l.length) (fun n sv i wr => ∃ k : Nat, n + k = l.length ∧ i = .int .i64 k ∧ Le w wr ∧ wr.ownsRow w.heap.size 9 1 sv k (strs ((l.take k).map (·.1))))
  case atStart => exact ⟨0, by omega, rfl, HLE1.out, HO1.out⟩
  case round =>
    rename World => wr
    obtain ⟨k, hn, rfl, hle, hown⟩ := hrel
    have HO := Lib.hid hown
    have HLE := Lib.hid hle
    have HN : gk + k ≤ l.length ∧ l.length ≤ gk + k := by omega
    have hsz := hle.size
    clear hn hown
    by_cases hkl : k < l.length
    · obtain ⟨g, o, rfl, hg, hcells⟩ := HR.out (by omega)
      have d1 := hle.cell (hcells k hkl).1
      have d2 := hle.cell (hcells k hkl).2
      have HT := Lib.hid (strs_take hkl)
      have htl : ((l.take k).map (·.1)).length = k := by rw [List.length_map, List.length_take]; omega
      have HC : Hid (∀ W, W.ownsRow w.heap.size 9 1 u3 k (strs ((l.take k).map (·.1))) → Calls Tryz.prog 109 #[u3, .string (st l[k].1)] W fun e w' => e = .returned (.bool false) ∧ W = w') := Lib.hid (fun W hW => contains_s w.heap.size W u3 ((l.take k).map (·.1)) l[k].1 (by rw [htl]; exact hW) (by rw [htl]; omega) (fun x hx e => by
        obtain ⟨y, hy, rfl⟩ := List.mem_map.1 hx
        obtain ⟨j, hj, rfl⟩ := List.mem_take_iff_getElem.1 hy
        exact (List.pairwise_iff_getElem.1 HD.out j k (by omega) hkl (by omega)) e))
      clear hle hcells hg htl
      generalize l[k].1 = key at d1 HT HC
      generalize l[k].2 = val at d2
      go_wp2_with fail
      refine (HC.out _ (HO.out.alloc _)).mono ?_
      rintro e w' ⟨rfl, rfl⟩
      go_wp2_with (at_builtin; refine wpList_append_lies _ rfl _ _ 122 rfl w.heap.size 9 i0 (.string ⟨#[]⟩) 1 16 Tryz.underlying122 hi0 hz0 hz1 hz2 rfl (by decide) _ _ _ rfl ((HO.out.alloc _).alloc _) ⟨wr.heap.size + 1, 0, none⟩ 1 1 [.string (st key)] rfl rfl ?c1 ?c2 ?c3 ?c4 ?c5 ?c6 (wr.heap.size + 2) ?c7 ?_)
      case c1 => exact World.news_of_block (heap_alloc2_new wr _ _)
      case c2 => intro u hu; simp only [List.mem_cons, List.mem_nil_iff, or_false] at hu; subst hu; rfl
      case c3 => omega
      case c4 => unfold maxLen; omega
      case c5 => omega
      case c6 => simp; omega
      case c7 => simp
      intro g2 cap2 w2 hown2 hgrow2 hat2 hlt2
      have HLE2 : Hid (Le w w2) := Lib.hid (Below.grown' ((HLE.out.alloc _).alloc _) hgrow2 (Nat.le_refl _) (fun g hg => (own_row' HO.out g hg).1))
      have HO2 : Hid (w2.ownsRow w.heap.size 9 1 (.slice (some ⟨g2, 0, none⟩) (k + 1) cap2) (k + 1) (strs ((l.take (k + 1)).map (·.1)))) := Lib.hid (by rw [HT.out, List.map_take]; exact hown2)
      clear hown2 hgrow2 hat2 hlt2 d1 d2
      go_wp2
      go_roundg (gk - 1)
      case measure => omega
      case rel => exact ⟨k + 1, by omega, by go_num, HLE2.out, HO2.out⟩
    · obtain rfl : k = l.length := by omega
      have HO2 : Hid (wr.ownsRow w.heap.size 9 1 u3 l.length (strs (l.map (·.1)))) := Lib.hid (by have h := HO.out; rw [List.take_of_length_le (Nat.le_refl _)] at h; exact h)
      clear hle
      go_wp2
      go_ret
      exact ⟨_, rfl, HO2.out, HLE.out⟩
/-- a row of texts -/
def BRow (base : Nat) (w : World) (xs : List Value) (ks : List Tx) : Prop := xs.length = ks.length ∧ ∀ j (h : j < ks.length), ∃ x, xs[j]? = some x ∧ Bt base w x ks[j]
theorem BRow.keep {base : Nat} {w w' : World} {xs : List Value} {ks : List Tx} (h : BRow base w xs ks) (k : ∀ (g : Nat) (cur : Array Value) (fz : Nat × Nat), w.heap[g]? = some (.cells cur 5 fz) → w'.heap[g]? = w.heap[g]?) : BRow base w' xs ks :=
  ⟨h.1, fun j hj => by obtain ⟨x, h1, h2⟩ := h.2 j hj; exact ⟨x, h1, h2.keep k⟩⟩
theorem BRow.snoc {base : Nat} {w : World} {xs : List Value} {ks : List Tx} (h : BRow base w xs ks) {x : Value} {k : Tx} (hx : Bt base w x k) : BRow base w (xs ++ [x]) (ks ++ [k]) := by
  have hxl := h.1
  refine ⟨by simp [hxl], fun j hj => ?_⟩
  by_cases hlt : j < ks.length
  · obtain ⟨y, e1, e2⟩ := h.2 j hlt
    exact ⟨y, by rw [List.getElem?_append_left (by omega)]; exact e1, by rw [List.getElem_append_left hlt]; exact e2⟩
  · simp only [List.length_append, List.length_cons, List.length_nil] at hj
    obtain rfl : j = ks.length := by omega
    refine ⟨x, ?_, by simpa using hx⟩
    rw [List.getElem?_append_right (by omega), show ks.length - xs.length = 0 from by omega]; rfl
theorem tx_info : ((Tryz.prog).info? 22).map (fun i => (i.zero, i.size, i.bytes)) = some (some (.slice none 0 0), 1, 24) := by kernel_rfl
set_option maxRecDepth 4000 in
set_option maxHeartbeats 2000000 in
theorem iKeys_c (φ : Nat → Prop) (w : World) (v : Value) (l : KVs) (hv : Kq φ w v l) (hd : DK l) (hsm : ∀ x ∈ l, x.1.length ≤ 1099511627776 ∧ x.2.length ≤ 1099511627776) (hll : l.length ≤ 100000) :
    Calls Tryz.prog 42 #[v] w fun e w' => ∃ v' xs, e = .returned v' ∧ w'.ownsRow w.heap.size 22 1 v' l.length xs ∧ BRow w.heap.size w' xs (l.map fun x : Tx × Tx => x.1) ∧ Le w w' := by
  have HV := Lib.hid hv
  have HD := Lib.hid hd
  have HS := Lib.hid hsm
  obtain ⟨A, c, rfl, _⟩ := hv
  clear hd hsm
  obtain ⟨i0, hi0, hz0, hz1, hz2⟩ := info_parts tx_info
  go_enter Tryz.func42, Tryz.ntmps42
  go_wp2_with fail
  refine (ikv_c φ w _ l HV.out HS.out (by omega)).mono ?_
  rintro e w1 ⟨pv, rfl, hp1, hown1, hle1⟩
  obtain ⟨np, Ap, cp, rfl⟩ : ∃ n A c, pv = .slice A n c := by obtain ⟨A, c, e, _⟩ := hp1; exact ⟨_, A, c, e⟩
  have HP := Lib.hid hp1
  have HL1 := Lib.hid hle1
  clear hp1 hown1 hle1
  go_wp2_with fail
  refine (keys_c w1 _ l HP.out HD.out hll).mono ?_
  rintro e w2 ⟨kv, rfl, hown2, hle2⟩
  have HO := Lib.hid hown2
  have HL2 := Lib.hid (HL1.out.trans hle2)
  have hml : (l.map fun x : Tx × Tx => x.1).length = l.length := List.length_map _
  obtain ⟨Ak, ck, rfl⟩ : ∃ A c, kv = .slice A l.length c := by
    rcases hown2.2 with ⟨e, hn⟩ | ⟨g, cap, cur, e, _⟩
    · exact ⟨none, 0, by rw [e, hn]⟩
    · exact ⟨_, _, e⟩
  clear hown2 hle2
  go_wp2
  go_loopg [3, 10] (l.length) (fun n sv i wr => ∃ (k : Nat) (xs : List Value), n + k = l.length ∧ i = .int .i64 k ∧ Le w2 wr ∧ wr.ownsRow w2.heap.size 22 1 sv k xs ∧ BRow w.heap.size wr xs ((l.map fun x : Tx × Tx => x.1).take k))
  case atStart => exact ⟨0, [], by omega, rfl, Le.refl w2, World.ownsRow_nil _ _ _ _, rfl, fun j hj => by simp at hj⟩
  case round =>
    rename World => wr
    obtain ⟨k, xs, hn, rfl, hle, hown, hbr⟩ := hrel
    have HO3 := Lib.hid hown
    have HLE := Lib.hid hle
    have HB := Lib.hid hbr
    have HN : gk + k ≤ l.length ∧ l.length ≤ gk + k := by omega
    have hsz : w.heap.size ≤ wr.heap.size := Nat.le_trans HL2.out.size hle.size
    clear hn hown hbr
    by_cases hkl : k < l.length
    · obtain ⟨g, c', hv, hc, hcc⟩ := str_cell (l := l.map (·.1)) (by rw [hml]; exact HO.out) (by rw [hml]; exact hkl)
      rw [hml] at hv hcc
      injection hv with hv1 _ hv2
      subst hv1
      subst hv2
      have hc := hle.cell hc
      have HKL : Hid ((l.map fun x : Tx × Tx => x.1).take (k + 1) = (l.map fun x : Tx × Tx => x.1).take k ++ [(l.map fun x : Tx × Tx => x.1)[k]'(by rw [hml]; exact hkl)]) := Lib.hid (List.take_succ_eq_append_getElem (by rw [hml]; exact hkl))
      have hks : ((l.map fun x : Tx × Tx => x.1)[k]'(by rw [hml]; exact hkl)).length ≤ 1099511627776 := by rw [List.getElem_map]; exact (HS.out _ (List.getElem_mem hkl)).1
      generalize (l.map fun x : Tx × Tx => x.1)[k]'(by rw [hml]; exact hkl) = key at hc HKL hks
      obtain ⟨B4, c4, w4, q4, le4, bt4⟩ := conv_mk (base := w.heap.size) wr (st key) hsz (by rw [st_size]; omega)
      rw [bs_st] at bt4
      have HB4 := Lib.hid bt4
      have HL4 := Lib.hid le4
      have HO4 := Lib.hid (own_le HO3.out le4)
      have hsz4 : w2.heap.size ≤ w4.heap.size := Nat.le_trans hle.size le4.size
      clear bt4 le4 hle
      go_wp2_with (at_builtin; refine wpList_append_lies _ rfl _ _ 71 rfl w2.heap.size 22 i0 (.slice none 0 0) 1 24 Tryz.underlying71 hi0 hz0 hz1 hz2 rfl (by decide) _ _ _ rfl (HO4.out.alloc _) ⟨w4.heap.size, 0, none⟩ 1 1 [.slice (some ⟨B4, 0, none⟩) (st key).size c4] rfl rfl ?c1 ?c2 ?c3 ?c4 ?c5 ?c6 (w4.heap.size + 1) ?c7 ?_)
      case c2 => rfl
      case c4 => unfold maxLen; omega
      case c5 => omega
      case c6 => omega
      intro g2 cap2 w5 hown5 hgrow5 hat5 hlt5
      have hrow := own_row' HO4.out
      have hkeep : ∀ (g : Nat) (cur : Array Value) (fz : Nat × Nat), w4.heap[g]? = some (.cells cur 5 fz) → w5.heap[g]? = w4.heap[g]? := by
        intro g cur fz hg
        have hlt := lt_of_heap hg
        refine (hgrow5.block g (by simp; omega) ?_).trans (Below.heap_alloc _ _ _ hlt)
        intro e
        obtain ⟨_, c', fz', h⟩ := hrow g e.symm
        rw [hg] at h
        injection h with h
        injection h with _ h
        exact absurd h (by decide)
      have HLE5 : Hid (Le w2 w5) := Lib.hid (by
        refine Below.grown' ((HLE.out.trans HL4.out).alloc _) hgrow5 (Nat.le_refl _) (fun g hg => (hrow g hg).1))
      have HO5 := Lib.hid hown5
      have HB5 : Hid (BRow w.heap.size w5 (xs ++ [.slice (some ⟨B4, 0, none⟩) (st key).size c4]) ((l.map fun x : Tx × Tx => x.1).take (k + 1))) := Lib.hid (by
        rw [HKL.out]
        exact ((HB.out.keep (w' := w4) (fun g _ _ hg => HL4.out.block g (lt_of_heap hg))).snoc HB4.out).keep hkeep)
      clear hown5 hgrow5 hat5 hlt5 hrow hkeep hc
      go_wp2
      go_roundg (gk - 1)
      case measure => omega
      case rel => exact ⟨k + 1, _, by omega, by go_num, HLE5.out, HO5.out, HB5.out⟩
    · obtain rfl : k = l.length := by omega
      have HB2 : Hid (BRow w.heap.size wr xs (l.map fun x : Tx × Tx => x.1)) := Lib.hid (by have h := HB.out; rw [List.take_of_length_le (by rw [hml]; exact Nat.le_refl _)] at h; exact h)
      clear hle
      go_wp2
      go_ret
      exact ⟨_, xs, rfl, HO3.out.mono HL2.out.size, HB2.out, HL2.out.trans HLE.out⟩
end Go.Proofs.YtgelnjcjpkklbaaGreatDoor
