/- What came in: acts. -/
import Derived.Test.YtgelnjcjpkklbaaGreatDoorOpen
import Derived.Test.YtgelnjcjpkklbaaGreatDoorIDo
set_option linter.unusedVariables false
set_option linter.unusedSimpArgs false
namespace Go.Proofs.YtgelnjcjpkklbaaGreatDoor
open Go.ChangeShapes Go.WideShapes Go.ChangeAt Go.RowKit

theorem cDo : Tryz.prog.cellsOf 58 = 3 := by kernel_rfl
theorem bDo : Tryz.prog.bytesOf 58 = 56 := by kernel_rfl
theorem list3 {l : List Value} (h : l.length = 3) : ∃ v u z, l = [v, u, z] := by
  match l, h with
  | [v, u, z], _ => exact ⟨v, u, z, rfl⟩
section
variable {H : Type} {enc : TypeId × Value → H}
set_option maxRecDepth 100000 in
theorem open_dw {W : World} {held : Bool} {fuel : Nat} {v : Value} {x : DataW H × List MemPlace} (hf : DataW.trod enc Tryz.prog W 0 (fun _ => true) held fuel 55 [v] = some x)
    (hw : (x.1.weights Tryz.prog 55).all (· ≤ reachBytes) = true) : ∃ l, Dw W v l := by
  rcases DataW.trod_slice Tryz.underlying55 hf with ⟨hcs, hx⟩ | ⟨a, len, cap, elems, rest, n, rfl, hcs, hx, hb, hl, hm, hlen, hel, hsp, hns⟩
  · injection hcs with e
    subst e
    exact ⟨[], none, 0, rfl, Nat.le_refl _, by decide, by decide, fun h => absurd h (by decide)⟩
  · injection hcs with e
    subst e
    have hr : reachBytes = 140737488351232 := rfl
    have hmx : maxLen = 9223372036854775807 := rfl
    have hw' : ∀ n ∈ (DataW.slice (H := H) (elems.map (·.1)) (rest.map (·.1))).weights Tryz.prog 55, n ≤ reachBytes := by
      rw [hx] at hw
      intro n hn
      exact of_decide_eq_true (List.all_eq_true.1 hw n hn)
    have hwe : (DataW.slice (H := H) (elems.map (·.1)) (rest.map (·.1))).weights Tryz.prog 55 = ((elems.map (·.1)).length + (rest.map (·.1)).length) * Tryz.prog.bytesOf 58 :: (DataW.weightsAll Tryz.prog 58 (elems.map (·.1)) ++ DataW.weightsAll Tryz.prog 58 (rest.map (·.1))) := by
      simp only [DataW.weights, Tryz.underlying55]
    rw [hwe] at hw'
    have hbig := hw' _ (List.mem_cons_self ..)
    rw [bDo, List.length_map, List.length_map] at hbig
    rcases Nat.eq_zero_or_pos len with h0 | hz
    · exact ⟨[], some a, cap, by simp only [List.length_nil]; rw [h0], by simp, by omega, by simp, fun h => absurd h (by simp)⟩
    have hsp0 : a.spot = none := by
      have h1 := hel 0 hz
      rw [cDo, List.getElem?_eq_getElem (show 0 < elems.length by omega)] at h1
      obtain ⟨cs, hc, _⟩ := Option.bind_eq_some_iff.1 h1
      obtain ⟨_, hcl, hcc⟩ := World.cells?_some hc
      obtain ⟨c0, c1, c2, rfl⟩ := list3 hcl
      simpa [Addr.add] using World.cell?_spot (hcc 0 (by omega))
    obtain ⟨b, o, spot⟩ := a
    have hspot : spot = none := hsp0
    subst hspot
    have each : ∀ i, i < len → ∃ z : Act3, ∃ c1 c2, W.cell? ⟨b, o + i * 3, none⟩ = some (.int .i64 z.1) ∧ W.cell? ⟨b, o + i * 3 + 1, none⟩ = some c1 ∧ W.cell? ⟨b, o + i * 3 + 2, none⟩ = some c2 ∧ Bv W c1 z.2.1 ∧ Bv W c2 z.2.2 := by
      intro i hi
      have h1 := hel i hi
      rw [cDo, List.getElem?_eq_getElem (show i < elems.length by omega)] at h1
      obtain ⟨cs, hc, ht⟩ := Option.bind_eq_some_iff.1 h1
      obtain ⟨_, hcl, hcc⟩ := World.cells?_some hc
      obtain ⟨c0, c1, c2, rfl⟩ := list3 hcl
      obtain ⟨y0, y1, y2, n', hx2, _, h0, h1', h2'⟩ := Deep.trod_struct3 Tryz.underlying58 ht
      have t0 : ([c0, c1, c2].drop 0).take (Tryz.prog.cellsOf 3) = [c0] := by rw [cIn]; rfl
      have t1 : ([c0, c1, c2].drop 1).take (Tryz.prog.cellsOf 22) = [c1] := by rw [cSl]; rfl
      have t2 : ([c0, c1, c2].drop 2).take (Tryz.prog.cellsOf 22) = [c2] := by rw [cSl]; rfl
      have g0 : DataW.trod enc Tryz.prog W 0 (fun _ => true) held n' 3 [c0] = some y0 := by rw [← t0]; exact h0
      have g1 : DataW.trod enc Tryz.prog W 0 (fun _ => true) held n' 22 [c1] = some y1 := by rw [← t1]; exact h1'
      have g2 : DataW.trod enc Tryz.prog W 0 (fun _ => true) held n' 22 [c2] = some y2 := by rw [← t2]; exact h2'
      have hm2 : ∀ n ∈ (DataW.agg (H := H) [y0.1, y1.1, y2.1]).weights Tryz.prog 58, n ≤ reachBytes := by
        intro n hn
        refine hw' n (List.mem_cons_of_mem _ (List.mem_append_left _ (weightsAll_mem (d := DataW.agg [y0.1, y1.1, y2.1]) ?_ n hn)))
        refine List.mem_map.2 ⟨elems[i], List.getElem_mem _, ?_⟩
        rw [hx2]
      have he2 : (DataW.agg (H := H) [y0.1, y1.1, y2.1]).weights Tryz.prog 58 = DataW.weightsEach Tryz.prog [3, 22, 22] [y0.1, y1.1, y2.1] := by
        simp only [DataW.weights, Tryz.underlying58]
        rfl
      rw [he2] at hm2
      obtain ⟨z0, hz0, _, _⟩ := DataW.trod_int Tryz.underlying3 g0
      injection hz0 with hz0
      subst hz0
      obtain ⟨l1, hl1⟩ := open_bv g1 (List.all_eq_true.2 fun n hn => decide_eq_true (hm2 n (DataW.weights_mem_each (j := 1) rfl rfl n hn)))
      obtain ⟨l2, hl2⟩ := open_bv g2 (List.all_eq_true.2 fun n hn => decide_eq_true (hm2 n (DataW.weights_mem_each (j := 2) rfl rfl n hn)))
      have k0 := hcc 0 (by omega)
      have k1 := hcc 1 (by omega)
      have k2 := hcc 2 (by omega)
      rw [add_plain, add_plain] at k0 k1 k2
      exact ⟨(z0, l1, l2), c1, c2, k0, k1, k2, hl1, hl2⟩
    obtain ⟨l, hll, hp⟩ := list_of len each
    refine ⟨l, some ⟨b, o, none⟩, cap, by rw [hll], by omega, by omega, by omega, fun h0 => ⟨b, o, rfl, fun j hj => ?_⟩⟩
    exact hp j hj
end
end Go.Proofs.YtgelnjcjpkklbaaGreatDoor
