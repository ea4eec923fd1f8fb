/- Contract: the specification's IsPlain. -/
import Derived.Test.YteedhaenbamiaaaGreatDoorSUt
import Derived.Test.YteedhaenbamiaaaGreatDoorSpW9
import Derived.Test.YteedhaenbamiaaaGreatDoorUriOf
set_option linter.unusedVariables false
set_option linter.unusedSimpArgs false
namespace Go.Proofs.YteedhaenbamiaaaGreatDoor
open Go.RowKit

theorem row_one_z {R : Array Value} {x : UV} (h : R = x.row) {φ : Nat → Prop} {w : World} {u : PU} (hx : Uq φ w x u) : R.all (·.oneCell') = true := by rw [h]; exact hx.one
def PlnPost (u : PU) (w : World) (e : Ending) (w' : World) : Prop := ∃ b, e = .returned (.bool b) ∧ (b = true → Pln u) ∧ Le w w'
set_option maxRecDepth 8000 in
set_option maxHeartbeats 8000000 in
theorem sIsPlain_c (w : World) (x : UV) (u : PU) (hx : Uq (fun _ => True) w x u) (hz : SzS u) :
    Calls Tryz.prog 15 #[x.val] w (PlnPost u w) := by
  have HX := Lib.hid hx
  have HZ := Lib.hid hz
  have hval : Hid (x.val = .agg #[x.scheme, x.raw, .bool x.wild, .bool x.slash, x.user, x.pass, x.host, .int .i64 x.port, x.ps, x.hs]) := Lib.hid rfl
  clear hx hz
  rw [hval.out]
  go_enter Tryz.func15, Tryz.ntmps15
  have HB0 : Hid ((w.alloc (Obj.cells #[x.scheme, x.raw, .bool x.wild, .bool x.slash, x.user, x.pass, x.host, .int .i64 x.port, x.ps, x.hs] 36)).heap[w.heap.size]? = some (.cells x.row 36 (0, 0))) := Lib.hid (heap_alloc_new w _)
  have HL0 : Hid (Le w (w.alloc (Obj.cells #[x.scheme, x.raw, .bool x.wild, .bool x.slash, x.user, x.pass, x.host, .int .i64 x.port, x.ps, x.hs] 36))) := Lib.hid ((Le.refl w).alloc _)
  go_upto_region 1 with fail
  generalize w.alloc (Obj.cells #[x.scheme, x.raw, .bool x.wild, .bool x.slash, x.user, x.pass, x.host, .int .i64 x.port, x.ps, x.hs] 36) = W0 at HB0 HL0 ⊢
  generalize Value.agg #[x.scheme, x.raw, .bool x.wild, .bool x.slash, x.user, x.pass, x.host, .int .i64 x.port, x.ps, x.hs] = ag0
  go_wp2_with (refine wpList_load_row rfl 36 (.tmp 1) rfl w.heap.size rfl 36 x.row (0, 0) _ HB0.out Tryz.underlying36 rfl spu_size ?_)
  refine (sUriText_c W0 x u (HX.out.le HL0.out) HZ.out).mono ?_
  rintro e w1 ⟨v1, rfl, hv1, hle1⟩
  have HL1 := Lib.hid (HL0.out.trans hle1)
  have HB1 := Lib.hid (hle1.heap HB0.out)
  have HV1 := Lib.hid hv1
  have HTL : Hid ((sxText u).length ≤ 1099511627000) := Lib.hid (by have := sxLen HZ.out; omega)
  obtain ⟨m1, A1, c1, rfl⟩ : ∃ m A c, v1 = .slice A m c := by obtain ⟨A, c, e⟩ := hv1.form; exact ⟨_, A, c, e⟩
  clear hv1 hle1
  go_wp2_with fail
  refine (parse_c _ (sxText u) w1 HV1.out HTL.out).mono ?_
  rintro e w2 ⟨z, kd, rfl, hle2, hzone, hm⟩
  have HL2 := Lib.hid (Le.trans HL1.out hle2)
  have HB2 := Lib.hid (hle2.heap HB1.out)
  have HM := Lib.hid hm
  obtain ⟨S, hS, hSs⟩ : ∃ S, z.val = .agg S ∧ S = z.row := ⟨_, rfl, rfl⟩
  have hsz2 : S.size = 10 := by rw [hSs]; rfl
  rw [← hSs] at hzone
  have HS := Lib.hid hS
  have HSS := Lib.hid hSs
  have hst2 := run_storeCells_new (P := Tryz.prog) w2 36 #[(.slice none 0 0), (.slice none 0 0), .bool false, .bool false, (.slice none 0 0), (.slice none 0 0), (.slice none 0 0), .int .i64 0, (.slice none 0 0), (.slice none 0 0)] S (by rw [hsz2]; exact spu_size) (by rw [hsz2]; rfl) hzone
  rw [hS]
  clear hle2 hm hS hSs hzone
  have HLE4 : Hid (Le w (w2.alloc (Obj.cells S 36))) := Lib.hid (HL2.out.alloc _)
  have HB4 := Lib.hid (((Le.refl w2).alloc (Obj.cells S 36)).heap HB2.out)
  have HC4 := Lib.hid (heap_alloc_new w2 (Obj.cells S 36))
  have HL34 := Lib.hid ((Le.refl w2).alloc (Obj.cells S 36))
  go_upto_region 2 with fail
  generalize w2.alloc (Obj.cells S 36) = W4 at HLE4 HB4 HC4 HL34 ⊢
  clear hst2
  obtain ⟨bw, hbw⟩ : ∃ b, x.wild = b := ⟨_, rfl⟩
  have HBW := Lib.hid hbw
  have xc0 : W4.cell? ⟨w.heap.size, 0, none⟩ = some (x.scheme) := by rw [cell_cells HB4.out 0]; rfl
  have xc1 : W4.cell? ⟨w.heap.size, 1, none⟩ = some (x.raw) := by rw [cell_cells HB4.out 1]; rfl
  have xc2 : W4.cell? ⟨w.heap.size, 2, none⟩ = some (.bool bw) := by rw [cell_cells HB4.out 2, ← hbw]; rfl
  have xc3 : W4.cell? ⟨w.heap.size, 3, none⟩ = some (.bool x.slash) := by rw [cell_cells HB4.out 3]; rfl
  have xc4 : W4.cell? ⟨w.heap.size, 4, none⟩ = some (x.user) := by rw [cell_cells HB4.out 4]; rfl
  have xc5 : W4.cell? ⟨w.heap.size, 5, none⟩ = some (x.pass) := by rw [cell_cells HB4.out 5]; rfl
  have xc6 : W4.cell? ⟨w.heap.size, 6, none⟩ = some (x.host) := by rw [cell_cells HB4.out 6]; rfl
  have xc7 : W4.cell? ⟨w.heap.size, 7, none⟩ = some (.int .i64 x.port) := by rw [cell_cells HB4.out 7]; rfl
  have xc8 : W4.cell? ⟨w.heap.size, 8, none⟩ = some (x.ps) := by rw [cell_cells HB4.out 8]; rfl
  have xc9 : W4.cell? ⟨w.heap.size, 9, none⟩ = some (x.hs) := by rw [cell_cells HB4.out 9]; rfl
  have zc0 : W4.cell? ⟨w2.heap.size, 0, none⟩ = some (z.scheme) := by rw [cell_cells HC4.out 0, HSS.out]; rfl
  have zc1 : W4.cell? ⟨w2.heap.size, 1, none⟩ = some (z.raw) := by rw [cell_cells HC4.out 1, HSS.out]; rfl
  have zc2 : W4.cell? ⟨w2.heap.size, 2, none⟩ = some (.bool z.wild) := by rw [cell_cells HC4.out 2, HSS.out]; rfl
  have zc3 : W4.cell? ⟨w2.heap.size, 3, none⟩ = some (.bool z.slash) := by rw [cell_cells HC4.out 3, HSS.out]; rfl
  have zc4 : W4.cell? ⟨w2.heap.size, 4, none⟩ = some (z.user) := by rw [cell_cells HC4.out 4, HSS.out]; rfl
  have zc5 : W4.cell? ⟨w2.heap.size, 5, none⟩ = some (z.pass) := by rw [cell_cells HC4.out 5, HSS.out]; rfl
  have zc6 : W4.cell? ⟨w2.heap.size, 6, none⟩ = some (z.host) := by rw [cell_cells HC4.out 6, HSS.out]; rfl
  have zc7 : W4.cell? ⟨w2.heap.size, 7, none⟩ = some (.int .i64 z.port) := by rw [cell_cells HC4.out 7, HSS.out]; rfl
  have zc8 : W4.cell? ⟨w2.heap.size, 8, none⟩ = some (z.ps) := by rw [cell_cells HC4.out 8, HSS.out]; rfl
  have zc9 : W4.cell? ⟨w2.heap.size, 9, none⟩ = some (z.hs) := by rw [cell_cells HC4.out 9, HSS.out]; rfl
  clear hbw
  cases hU : sUri (sxText u) with
  | told =>
    have hm := HM.out
    rw [hU] at hm
    obtain rfl : kd = -1 := hm
    go_wp2
    go_ret
    exact ⟨false, rfl, (fun h => by cases h), HLE4.out⟩
  | open_ =>
    have hm := HM.out
    rw [hU] at hm
    obtain rfl : kd = -2 := hm
    go_wp2
    go_ret
    exact ⟨false, rfl, (fun h => by cases h), HLE4.out⟩
  | val v =>
    have hm := HM.out
    rw [hU] at hm
    obtain ⟨hkd, hz⟩ := hm
    subst hkd
    have HU := Lib.hid hU
    have HZ4 := Lib.hid (hz.le HL34.out)
    clear hz hU
    cases bw
    case true =>
      go_wp2
      go_ret
      exact ⟨false, rfl, (fun h => by cases h), HLE4.out⟩
    case false =>
      have HX4 := Lib.hid (HX.out.le HLE4.out)
      have hvx : Hid (.agg #[x.scheme, x.raw, .bool false, .bool x.slash, x.user, x.pass, x.host, .int .i64 x.port, x.ps, x.hs] = x.val) := Lib.hid (by unfold UV.val; rw [HBW.out])
      have HSC : Hid (Calls Tryz.prog 49 #[.agg #[x.scheme, x.raw, .bool false, .bool x.slash, x.user, x.pass, x.host, .int .i64 x.port, x.ps, x.hs], .agg #[z.scheme, z.raw, .bool z.wild, .bool z.slash, z.user, z.pass, z.host, .int .i64 z.port, z.ps, z.hs]] W4 fun e w' => e = .returned (.bool (puB u v)) ∧ Le W4 w') := Lib.hid (by rw [hvx.out]; exact sSameUri_c _ _ W4 x z u v HX4.out HZ4.out)
      clear hvx
      go_wp2_with fail
      refine HSC.out.mono ?_
      rintro e w5 ⟨rfl, hle5⟩
      have HLE5 := Lib.hid (Le.trans HLE4.out hle5)
      clear hle5
      obtain ⟨pb, hpb⟩ : ∃ b, puB u v = b := ⟨_, rfl⟩
      have HPB : Hid (pb = true → Pln u) := Lib.hid (fun h => by
        rw [h] at hpb
        have e := (puB_iff u v).1 hpb
        refine ⟨by rw [HU.out, ← e], ?_⟩
        rw [← HX.out.wild]; exact HBW.out)
      rw [hpb]
      clear hpb
      go_wp2
      go_ret
      exact ⟨pb, rfl, HPB.out, HLE5.out⟩
end Go.Proofs.YteedhaenbamiaaaGreatDoor
