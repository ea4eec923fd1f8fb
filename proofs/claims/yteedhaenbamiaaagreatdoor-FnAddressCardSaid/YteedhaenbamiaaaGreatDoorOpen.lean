/- What came in: pairs, a URI. -/
import Derived.Test.YteedhaenbamiaaaGreatDoorRow0
import Derived.Test.YteedhaenbamiaaaGreatDoorLw
set_option linter.unusedVariables false
set_option linter.unusedSimpArgs false
namespace Go.Proofs.YteedhaenbamiaaaGreatDoor
open Go.ChangeShapes Go.WideShapes Go.ChangeAt Go.RowKit

theorem cSl : Tryz.prog.cellsOf 22 = 1 := by kernel_rfl
theorem cKv : Tryz.prog.cellsOf 89 = 2 := by kernel_rfl
theorem cKs : Tryz.prog.cellsOf 30 = 1 := by kernel_rfl
theorem cIn : Tryz.prog.cellsOf 3 = 1 := by kernel_rfl
theorem cUri : Tryz.prog.cellsOf 32 = 10 := by kernel_rfl
theorem bKv : Tryz.prog.bytesOf 89 = 48 := by kernel_rfl
theorem list10 {α : Type} {l : List α} (h : l.length = 10) : ∃ a b c d e f g i j k, l = [a, b, c, d, e, f, g, i, j, k] := by
  match l, h with
  | [a, b, c, d, e, f, g, i, j, k], _ => exact ⟨a, b, c, d, e, f, g, i, j, k, rfl⟩
theorem list_of {α : Type} {P : Nat → α → Prop} : ∀ (n : Nat), (∀ i, i < n → ∃ z, P i z) → ∃ l : List α, l.length = n ∧ ∀ i (h : i < l.length), P i l[i] := by
  intro n
  induction n with
  | zero => intro _; exact ⟨[], rfl, fun i h => absurd h (by simp)⟩
  | succ n ih =>
    intro h
    obtain ⟨l, hl, hp⟩ := ih (fun i hi => h i (by omega))
    obtain ⟨z, hz⟩ := h n (by omega)
    refine ⟨l ++ [z], by simp [hl], fun i hi => ?_⟩
    by_cases hlt : i < l.length
    · rw [List.getElem_append_left hlt]; exact hp i hlt
    · have e : i = l.length := by simp at hi; omega
      subst e
      rw [List.getElem_append_right (Nat.le_refl _)]
      simpa [hl] using hz
section
variable {H : Type} {enc : TypeId × Value → H}
theorem weightsAll_mem {P : Program} {e : TypeId} {d : DataW H} : ∀ {l : List (DataW H)}, d ∈ l → ∀ n ∈ d.weights P e, n ∈ DataW.weightsAll P e l := by
  intro l
  induction l with
  | nil => intro h; cases h
  | cons x r ih =>
    intro h n hn
    rw [DataW.weightsAll, List.mem_append]
    rcases List.mem_cons.1 h with rfl | h
    · exact .inl hn
    · exact .inr (ih h n hn)
set_option maxRecDepth 100000 in
theorem open_kw {W : World} {held : Bool} {fuel : Nat} {v : Value} {x : DataW H × List MemPlace} (hf : DataW.trod enc Tryz.prog W 0 (fun _ => true) held fuel 30 [v] = some x)
    (hw : (x.1.weights Tryz.prog 30).all (· ≤ reachBytes) = true) : ∃ l, Kw W v l := by
  rcases DataW.trod_slice Tryz.underlying30 hf with ⟨hcs, hx⟩ | ⟨a, len, cap, elems, rest, n, rfl, hcs, hx, hb, hl, hm, hlen, hel, hsp, hns⟩
  · injection hcs with e
    subst e
    exact ⟨[], none, 0, rfl, Nat.le_refl _, by decide, by decide, fun h => absurd h (by decide)⟩
  · injection hcs with e
    subst e
    have hr : reachBytes = 140737488351232 := rfl
    have hmx : maxLen = 9223372036854775807 := rfl
    have hw' : ∀ n ∈ (DataW.slice (H := H) (elems.map (·.1)) (rest.map (·.1))).weights Tryz.prog 30, n ≤ reachBytes := by
      rw [hx] at hw
      intro n hn
      exact of_decide_eq_true (List.all_eq_true.1 hw n hn)
    have hwe : (DataW.slice (H := H) (elems.map (·.1)) (rest.map (·.1))).weights Tryz.prog 30 = ((elems.map (·.1)).length + (rest.map (·.1)).length) * Tryz.prog.bytesOf 89 :: (DataW.weightsAll Tryz.prog 89 (elems.map (·.1)) ++ DataW.weightsAll Tryz.prog 89 (rest.map (·.1))) := by
      simp only [DataW.weights, Tryz.underlying30]
    rw [hwe] at hw'
    have hbig := hw' _ (List.mem_cons_self ..)
    rw [bKv, List.length_map, List.length_map] at hbig
    rcases Nat.eq_zero_or_pos len with h0 | hz
    · exact ⟨[], some a, cap, by simp only [List.length_nil]; rw [h0], by simp, by omega, by simp, fun h => absurd h (by simp)⟩
    have hsp0 : a.spot = none := by
      have h1 := hel 0 hz
      rw [cKv, List.getElem?_eq_getElem (show 0 < elems.length by omega)] at h1
      obtain ⟨cs, hc, _⟩ := Option.bind_eq_some_iff.1 h1
      obtain ⟨_, hcl, hcc⟩ := World.cells?_some hc
      obtain ⟨c0, c1, rfl⟩ := list2 hcl
      simpa [Addr.add] using World.cell?_spot (hcc 0 (by omega))
    obtain ⟨b, o, spot⟩ := a
    have hspot : spot = none := hsp0
    subst hspot
    have each : ∀ i, i < len → ∃ z : Tx × Tx, ∃ c0 c1, W.cell? ⟨b, o + i * 2, none⟩ = some c0 ∧ W.cell? ⟨b, o + i * 2 + 1, none⟩ = some c1 ∧ Bv W c0 z.1 ∧ Bv W c1 z.2 := by
      intro i hi
      have h1 := hel i hi
      rw [cKv, List.getElem?_eq_getElem (show i < elems.length by omega)] at h1
      obtain ⟨cs, hc, ht⟩ := Option.bind_eq_some_iff.1 h1
      obtain ⟨_, hcl, hcc⟩ := World.cells?_some hc
      obtain ⟨c0, c1, rfl⟩ := list2 hcl
      obtain ⟨y0, y1, n', hx2, _, h0, h1'⟩ := ChangeShapes.trod_struct2 Tryz.underlying89 ht
      have t0 : ([c0, c1].drop 0).take (Tryz.prog.cellsOf 22) = [c0] := by rw [cSl]; rfl
      have t1 : ([c0, c1].drop 1).take (Tryz.prog.cellsOf 22) = [c1] := by rw [cSl]; rfl
      have g0 : DataW.trod enc Tryz.prog W 0 (fun _ => true) held n' 22 [c0] = some y0 := by rw [← t0]; exact h0
      have g1 : DataW.trod enc Tryz.prog W 0 (fun _ => true) held n' 22 [c1] = some y1 := by rw [← t1]; exact h1'
      have hm2 : ∀ n ∈ (DataW.agg (H := H) [y0.1, y1.1]).weights Tryz.prog 89, n ≤ reachBytes := by
        intro n hn
        refine hw' n (List.mem_cons_of_mem _ (List.mem_append_left _ (weightsAll_mem (d := DataW.agg [y0.1, y1.1]) ?_ n hn)))
        refine List.mem_map.2 ⟨elems[i], List.getElem_mem _, ?_⟩
        rw [hx2]
      have he2 : (DataW.agg (H := H) [y0.1, y1.1]).weights Tryz.prog 89 = DataW.weightsEach Tryz.prog [22, 22] [y0.1, y1.1] := by
        simp only [DataW.weights, Tryz.underlying89]
        rfl
      rw [he2] at hm2
      obtain ⟨l0, hl0⟩ := open_bv g0 (List.all_eq_true.2 fun n hn => decide_eq_true (hm2 n (DataW.weights_mem_each (j := 0) rfl rfl n hn)))
      obtain ⟨l1, hl1⟩ := open_bv g1 (List.all_eq_true.2 fun n hn => decide_eq_true (hm2 n (DataW.weights_mem_each (j := 1) rfl rfl n hn)))
      have k0 := hcc 0 (by omega)
      have k1 := hcc 1 (by omega)
      rw [add_plain, add_plain] at k0 k1
      exact ⟨(l0, l1), c0, c1, k0, k1, hl0, hl1⟩
    obtain ⟨l, hll, hp⟩ := list_of len each
    refine ⟨l, some ⟨b, o, none⟩, cap, by rw [hll], by omega, by omega, by omega, fun h0 => ⟨b, o, rfl, fun j hj => ?_⟩⟩
    obtain ⟨c0, c1, q0, q1, q2, q3⟩ := hp j hj
    exact ⟨c0, c1, q0, q1, q2, q3⟩
set_option maxRecDepth 100000 in
set_option linter.constructorNameAsVariable false in
theorem open_uq {W : World} {held : Bool} {base : Nat} {v : Value} {d : DataW H} {p : List MemPlace} (hk : Value.okWide Tryz.prog W .any base 32 v) (h : DataW.Trod enc Tryz.prog W 0 (fun _ => true) held 32 v d p)
    (hw : (d.weights Tryz.prog 32).all (· ≤ reachBytes) = true) : ∃ (x : UV) (u : PU), v = x.val ∧ Uw W x u := by
  obtain ⟨cs, rfl, hsz⟩ := okWide_struct Tryz.underlying32 hk
  rw [cUri] at hsz
  obtain ⟨l⟩ := cs
  obtain ⟨c0, c1, c2, c3, c4, c5, c6, c7, c8, c9, rfl⟩ := list10 hsz
  obtain ⟨fuel, hf⟩ := h
  obtain ⟨xs, n, _, hx, _, hlen, hfld⟩ := DataW.trod_struct Tryz.underlying32 hf
  obtain ⟨y0, y1, y2, y3, y4, y5, y6, y7, y8, y9, rfl⟩ := list10 hlen
  injection hx with hd _
  subst hd
  have he2 : (DataW.agg (H := H) ([y0, y1, y2, y3, y4, y5, y6, y7, y8, y9].map (·.1))).weights Tryz.prog 32 = DataW.weightsEach Tryz.prog [22, 22, 4, 4, 22, 22, 22, 3, 30, 30] [y0.1, y1.1, y2.1, y3.1, y4.1, y5.1, y6.1, y7.1, y8.1, y9.1] := by
    simp only [DataW.weights, Tryz.underlying32]
    rfl
  rw [he2] at hw
  have hw' := fun n hn => of_decide_eq_true (List.all_eq_true.1 hw n hn)
  have g0 : DataW.trod enc Tryz.prog W 0 (fun _ => true) held n 22 [c0] = some y0 := by
    have e : ([c0, c1, c2, c3, c4, c5, c6, c7, c8, c9].drop 0).take (Tryz.prog.cellsOf 22) = [c0] := by rw [cSl]; rfl
    rw [← e]; exact hfld 0 _ rfl
  have g1 : DataW.trod enc Tryz.prog W 0 (fun _ => true) held n 22 [c1] = some y1 := by
    have e : ([c0, c1, c2, c3, c4, c5, c6, c7, c8, c9].drop 1).take (Tryz.prog.cellsOf 22) = [c1] := by rw [cSl]; rfl
    rw [← e]; exact hfld 1 _ rfl
  have g2 : DataW.trod enc Tryz.prog W 0 (fun _ => true) held n 4 [c2] = some y2 := by
    have e : ([c0, c1, c2, c3, c4, c5, c6, c7, c8, c9].drop 2).take (Tryz.prog.cellsOf 4) = [c2] := by rw [cBool]; rfl
    rw [← e]; exact hfld 2 _ rfl
  have g3 : DataW.trod enc Tryz.prog W 0 (fun _ => true) held n 4 [c3] = some y3 := by
    have e : ([c0, c1, c2, c3, c4, c5, c6, c7, c8, c9].drop 3).take (Tryz.prog.cellsOf 4) = [c3] := by rw [cBool]; rfl
    rw [← e]; exact hfld 3 _ rfl
  have g4 : DataW.trod enc Tryz.prog W 0 (fun _ => true) held n 22 [c4] = some y4 := by
    have e : ([c0, c1, c2, c3, c4, c5, c6, c7, c8, c9].drop 4).take (Tryz.prog.cellsOf 22) = [c4] := by rw [cSl]; rfl
    rw [← e]; exact hfld 4 _ rfl
  have g5 : DataW.trod enc Tryz.prog W 0 (fun _ => true) held n 22 [c5] = some y5 := by
    have e : ([c0, c1, c2, c3, c4, c5, c6, c7, c8, c9].drop 5).take (Tryz.prog.cellsOf 22) = [c5] := by rw [cSl]; rfl
    rw [← e]; exact hfld 5 _ rfl
  have g6 : DataW.trod enc Tryz.prog W 0 (fun _ => true) held n 22 [c6] = some y6 := by
    have e : ([c0, c1, c2, c3, c4, c5, c6, c7, c8, c9].drop 6).take (Tryz.prog.cellsOf 22) = [c6] := by rw [cSl]; rfl
    rw [← e]; exact hfld 6 _ rfl
  have g7 : DataW.trod enc Tryz.prog W 0 (fun _ => true) held n 3 [c7] = some y7 := by
    have e : ([c0, c1, c2, c3, c4, c5, c6, c7, c8, c9].drop 7).take (Tryz.prog.cellsOf 3) = [c7] := by rw [cIn]; rfl
    rw [← e]; exact hfld 7 _ rfl
  have g8 : DataW.trod enc Tryz.prog W 0 (fun _ => true) held n 30 [c8] = some y8 := by
    have e : ([c0, c1, c2, c3, c4, c5, c6, c7, c8, c9].drop 8).take (Tryz.prog.cellsOf 30) = [c8] := by rw [cKs]; rfl
    rw [← e]; exact hfld 8 _ rfl
  have g9 : DataW.trod enc Tryz.prog W 0 (fun _ => true) held n 30 [c9] = some y9 := by
    have e : ([c0, c1, c2, c3, c4, c5, c6, c7, c8, c9].drop 9).take (Tryz.prog.cellsOf 30) = [c9] := by rw [cKs]; rfl
    rw [← e]; exact hfld 9 _ rfl
  obtain ⟨l0, hl0⟩ := open_bv g0 (List.all_eq_true.2 fun n hn => decide_eq_true (hw' n (DataW.weights_mem_each (j := 0) rfl rfl n hn)))
  obtain ⟨l1, hl1⟩ := open_bv g1 (List.all_eq_true.2 fun n hn => decide_eq_true (hw' n (DataW.weights_mem_each (j := 1) rfl rfl n hn)))
  obtain ⟨b2, hb2, _⟩ := DataW.trod_bool Tryz.underlying4 g2
  injection hb2 with hb2
  subst hb2
  obtain ⟨b3, hb3, _⟩ := DataW.trod_bool Tryz.underlying4 g3
  injection hb3 with hb3
  subst hb3
  obtain ⟨l4, hl4⟩ := open_bv g4 (List.all_eq_true.2 fun n hn => decide_eq_true (hw' n (DataW.weights_mem_each (j := 4) rfl rfl n hn)))
  obtain ⟨l5, hl5⟩ := open_bv g5 (List.all_eq_true.2 fun n hn => decide_eq_true (hw' n (DataW.weights_mem_each (j := 5) rfl rfl n hn)))
  obtain ⟨l6, hl6⟩ := open_bv g6 (List.all_eq_true.2 fun n hn => decide_eq_true (hw' n (DataW.weights_mem_each (j := 6) rfl rfl n hn)))
  obtain ⟨z7, hz7, _, hwf⟩ := DataW.trod_int Tryz.underlying3 g7
  injection hz7 with hz7
  subst hz7
  obtain ⟨l8, hl8⟩ := open_kw g8 (List.all_eq_true.2 fun n hn => decide_eq_true (hw' n (DataW.weights_mem_each (j := 8) rfl rfl n hn)))
  obtain ⟨l9, hl9⟩ := open_kw g9 (List.all_eq_true.2 fun n hn => decide_eq_true (hw' n (DataW.weights_mem_each (j := 9) rfl rfl n hn)))
  have hlo : -9223372036854775808 ≤ z7 ∧ z7 ≤ 9223372036854775807 := by
    have e1 : IntKind.i64.min = -9223372036854775808 := rfl
    have e2 : IntKind.i64.max = 9223372036854775807 := rfl
    simpa [Lit.wf, e1, e2] using hwf
  exact ⟨⟨c0, c1, b2, b3, c4, c5, c6, z7, c8, c9⟩, ⟨l0, l1, b2, b3, l4, l5, l6, z7, l8, l9⟩, rfl, ⟨hl0, hl1, rfl, rfl, hl4, hl5, hl6, rfl, hlo.1, hlo.2, hl8, hl9⟩⟩
end
end Go.Proofs.YteedhaenbamiaaaGreatDoor
