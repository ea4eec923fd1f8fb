/- Contract: the law FnAddressRead (printed by gen_fnar.py). -/
import Derived.Test.YteedhaenbamiaaaGreatDoorSAf
import Derived.Test.YteedhaenbamiaaaGreatDoorFnPU
set_option linter.unusedVariables false
set_option linter.unusedSimpArgs false
namespace Go.Proofs.YteedhaenbamiaaaGreatDoor
open Go.RowKit

set_option maxRecDepth 8000 in
set_option maxHeartbeats 8000000 in
theorem fnAddressRead_c (w : World) (v : Value) (l : Tx) (hv : Bv w v l) (hL : LaidA w) :
    Calls Tryz.prog 7 #[v] w fun e w' => e = .returned (.bool true) ∧ Le w w' := by
  have HV := Lib.hid hv
  have HL := Lib.hid hL
  obtain ⟨A0, c0, rfl, hl0⟩ := bv_slice hv
  clear hv hL
  by_cases h1 : 2147483647 < l.length
  · have h1' : (2147483647 : Int) < l.length := by omega
    go_enter Tryz.func7, Tryz.ntmps7
    go_wp2
    go_ret
    exact ⟨rfl, Le.refl w⟩
  have h1' : (l.length : Int) ≤ 2147483647 := by omega
  by_cases h2 : 8192 < l.length
  · have h2' : (8192 : Int) < l.length := by omega
    go_enter Tryz.func7, Tryz.ntmps7
    go_wp2_with fail
    refine (known_c w HL.out.l).mono ?_
    rintro e w' ⟨rfl, hle⟩
    have HLE := Lib.hid hle
    clear hle
    go_wp2
    go_ret
    exact ⟨rfl, HLE.out⟩
  have h2' : (l.length : Int) ≤ 8192 := by omega
  go_enter Tryz.func7, Tryz.ntmps7
  go_wp2_with fail
  refine (iaddr_c w _ l HV.out (by omega) HL.out).mono ?_
  rintro e w1 ⟨hle1, xn, xp, x, ok, r, rfl, hn, hx, hp, hpt⟩
  have HLE1 := Lib.hid hle1
  have HX := Lib.hid hx
  have HN := Lib.hid hn
  have HP := Lib.hid hp
  have HPT := Lib.hid hpt
  obtain ⟨R, hR, hRs⟩ : ∃ R, x.val = .agg R ∧ R = x.row := ⟨_, rfl, rfl⟩
  have hone : R.all (·.oneCell') = true := row_one_cells hRs hx
  have hsz : R.size = 10 := by rw [hRs]; rfl
  have HR := Lib.hid hR
  have HRS := Lib.hid hRs
  have hst := run_storeCells_new (P := Tryz.prog) w1 32 #[(.slice none 0 0), (.slice none 0 0), .bool false, .bool false, (.slice none 0 0), (.slice none 0 0), (.slice none 0 0), .int .i64 0, (.slice none 0 0), (.slice none 0 0)] R (by rw [hsz]; exact uri_size) (by rw [hsz]; rfl) hone
  rw [hR]
  clear hle1 hx hn hp hpt hR hRs hone
  go_wp2_with fail
  have hle2 : Le w (w1.alloc (Obj.cells R 32)) := HLE1.out.alloc _
  have HB1 := Lib.hid (heap_alloc_new w1 (Obj.cells R 32))
  have HL12 := Lib.hid ((Le.refl w1).alloc (Obj.cells R 32))
  refine (saddr_c _ l _ (HV.out.le hle2) (by omega)).mono ?_
  rintro e w3 ⟨nv, pv, z, kd, rfl, hle3, hzone, hm⟩
  have HL13 := Lib.hid (HL12.out.trans hle3)
  have HLE3 := Lib.hid (Le.trans hle2 hle3)
  have HM := Lib.hid hm
  have HB3 := Lib.hid (hle3.heap HB1.out)
  obtain ⟨S, hS, hSs⟩ : ∃ S, z.val = .agg S ∧ S = z.row := ⟨_, rfl, rfl⟩
  have hsz2 : S.size = 10 := by rw [hSs]; rfl
  rw [← hSs] at hzone
  have HS := Lib.hid hS
  have HSS := Lib.hid hSs
  have hst2 := run_storeCells_new (P := Tryz.prog) w3 36 #[(.slice none 0 0), (.slice none 0 0), .bool false, .bool false, (.slice none 0 0), (.slice none 0 0), (.slice none 0 0), .int .i64 0, (.slice none 0 0), (.slice none 0 0)] S (by rw [hsz2]; exact spu_size) (by rw [hsz2]; rfl) hzone
  rw [hS]
  clear hle2 hle3 hm hst HB1 hS hSs hzone HL12
  have HLE4 : Hid (Le w (w3.alloc (Obj.cells S 36))) := Lib.hid (HLE3.out.alloc _)
  have HL14 := Lib.hid (HL13.out.alloc (Obj.cells S 36))
  have HB4 := Lib.hid (((Le.refl w3).alloc (Obj.cells S 36)).heap HB3.out)
  have HC4 := Lib.hid (heap_alloc_new w3 (Obj.cells S 36))
  have HL34 := Lib.hid ((Le.refl w3).alloc (Obj.cells S 36))
  go_upto_region 7 with fail
  generalize w3.alloc (Obj.cells S 36) = W4 at HLE4 HL14 HB4 HC4 HL34 ⊢
  clear HB3 hst2
  have HX4 := Lib.hid (HX.out.le HL14.out)
  have HN4 := Lib.hid (HN.out.le HL14.out)
  have HP4 := Lib.hid (HP.out.le HL14.out)
  cases hU : sAddr l with
  | open_ =>
    have hm := HM.out
    rw [hU] at hm
    obtain rfl : kd = -2 := hm
    clear hU
    go_wp2_with fail
    refine (agrees_c ok false (-2) true _ rfl (.inl rfl)).mono ?_
    rintro e w' ⟨rfl, rfl⟩
    go_wp2_with fail
    refine (known_c _ (HL.out.l.le HLE4.out)).mono ?_
    rintro e w9 ⟨rfl, hle9⟩
    have HLE9 := Lib.hid (Le.trans HLE4.out hle9)
    clear hle9
    go_wp2
    go_ret
    exact ⟨rfl, HLE9.out⟩
  | val n u kvs =>
    have hm := HM.out
    rw [hU] at hm
    have hlw := addr_law hU HPT.out
    obtain ⟨hkd, hnv, hz, hpv⟩ := hm
    subst hkd
    have hok : ok = true ∧ r = ⟨n, u, kvs⟩ := by
      cases ok with
      | false => cases hlw
      | true => exact ⟨rfl, by injection hlw⟩
    obtain ⟨rfl, rfl⟩ := hok
    have HZ4 := Lib.hid (hz.le HL34.out)
    have HNV4 := Lib.hid (hnv.le HL34.out)
    have HPV4 := Lib.hid (hpv.le HL34.out)
    have hl1 : u.ps.length ≤ 1099511627776 := by obtain ⟨_, _, _, _, _, h, _⟩ := hz.ps; exact h
    have hl2 : u.hs.length ≤ 1099511627776 := by obtain ⟨_, _, _, _, _, h, _⟩ := hz.hs; exact h
    clear hlw hz hnv hpv hU
    go_wp2_with fail
    refine (equal_c _ _ _ n n HN4.out.1 HNV4.out).mono ?_
    rintro e w5 ⟨rfl, hd5⟩
    rw [show decide (n = n) = true by simp]
    have hl5 := hd5.le
    have HL45 := Lib.hid hl5
    have HLE5 := Lib.hid (Le.trans HLE4.out hl5)
    have HB5 := Lib.hid (hl5.heap HB4.out)
    have HC5 := Lib.hid (hl5.heap HC4.out)
    have HX5 := Lib.hid (HX4.out.le hl5)
    have HZ5 := Lib.hid (HZ4.out.le hl5)
    have HP5 := Lib.hid (HP4.out.le hl5)
    have HPV5 := Lib.hid (HPV4.out.le hl5)
    clear hd5 hl5 HX4 HZ4 HN4 HNV4 HP4 HPV4 HB4 HC4
    have xc0 : w5.cell? ⟨w1.heap.size, 0, none⟩ = some (x.scheme) := by rw [cell_cells HB5.out 0, HRS.out]; rfl
    have xc1 : w5.cell? ⟨w1.heap.size, 1, none⟩ = some (x.raw) := by rw [cell_cells HB5.out 1, HRS.out]; rfl
    have xc2 : w5.cell? ⟨w1.heap.size, 2, none⟩ = some (.bool x.wild) := by rw [cell_cells HB5.out 2, HRS.out]; rfl
    have xc3 : w5.cell? ⟨w1.heap.size, 3, none⟩ = some (.bool x.slash) := by rw [cell_cells HB5.out 3, HRS.out]; rfl
    have xc4 : w5.cell? ⟨w1.heap.size, 4, none⟩ = some (x.user) := by rw [cell_cells HB5.out 4, HRS.out]; rfl
    have xc5 : w5.cell? ⟨w1.heap.size, 5, none⟩ = some (x.pass) := by rw [cell_cells HB5.out 5, HRS.out]; rfl
    have xc6 : w5.cell? ⟨w1.heap.size, 6, none⟩ = some (x.host) := by rw [cell_cells HB5.out 6, HRS.out]; rfl
    have xc7 : w5.cell? ⟨w1.heap.size, 7, none⟩ = some (.int .i64 x.port) := by rw [cell_cells HB5.out 7, HRS.out]; rfl
    have xc8 : w5.cell? ⟨w1.heap.size, 8, none⟩ = some (x.ps) := by rw [cell_cells HB5.out 8, HRS.out]; rfl
    have xc9 : w5.cell? ⟨w1.heap.size, 9, none⟩ = some (x.hs) := by rw [cell_cells HB5.out 9, HRS.out]; rfl
    have zc0 : w5.cell? ⟨w3.heap.size, 0, none⟩ = some (z.scheme) := by rw [cell_cells HC5.out 0, HSS.out]; rfl
    have zc1 : w5.cell? ⟨w3.heap.size, 1, none⟩ = some (z.raw) := by rw [cell_cells HC5.out 1, HSS.out]; rfl
    have zc2 : w5.cell? ⟨w3.heap.size, 2, none⟩ = some (.bool z.wild) := by rw [cell_cells HC5.out 2, HSS.out]; rfl
    have zc3 : w5.cell? ⟨w3.heap.size, 3, none⟩ = some (.bool z.slash) := by rw [cell_cells HC5.out 3, HSS.out]; rfl
    have zc4 : w5.cell? ⟨w3.heap.size, 4, none⟩ = some (z.user) := by rw [cell_cells HC5.out 4, HSS.out]; rfl
    have zc5 : w5.cell? ⟨w3.heap.size, 5, none⟩ = some (z.pass) := by rw [cell_cells HC5.out 5, HSS.out]; rfl
    have zc6 : w5.cell? ⟨w3.heap.size, 6, none⟩ = some (z.host) := by rw [cell_cells HC5.out 6, HSS.out]; rfl
    have zc7 : w5.cell? ⟨w3.heap.size, 7, none⟩ = some (.int .i64 z.port) := by rw [cell_cells HC5.out 7, HSS.out]; rfl
    have zc8 : w5.cell? ⟨w3.heap.size, 8, none⟩ = some (z.ps) := by rw [cell_cells HC5.out 8, HSS.out]; rfl
    have zc9 : w5.cell? ⟨w3.heap.size, 9, none⟩ = some (z.hs) := by rw [cell_cells HC5.out 9, HSS.out]; rfl
    go_wp2_with fail
    refine (isUriOf_c _ _ _ x z u u HX5.out HZ5.out hl1 hl2).mono ?_
    rintro e w6 ⟨rfl, hle6⟩
    rw [show puB u u = true from (puB_iff _ _).2 rfl]
    have HLE6 := Lib.hid (Le.trans HLE5.out hle6)
    have HP6 := Lib.hid (HP5.out.le hle6)
    have HPV6 := Lib.hid (HPV5.out.le hle6)
    have hkl : kvs.length ≤ 1099511627776 := by obtain ⟨_, _, _, _, _, h, _⟩ := HPV6.out; exact h
    clear hle6 xc0 xc1 xc2 xc3 xc4 xc5 xc6 xc7 xc8 xc9 zc0 zc1 zc2 zc3 zc4 zc5 zc6 zc7 zc8 zc9
    go_wp2_with fail
    refine (kvsOf_c _ _ kvs w6 w6 (Le.refl _) HP6.out).mono ?_
    rintro e w7 ⟨v7, rfl, hk7, hle7⟩
    have HLE7 := Lib.hid (Le.trans HLE6.out hle7)
    have HK7 := Lib.hid (hk7.kq hle7 hkl)
    have HPV7 := Lib.hid (HPV6.out.le hle7)
    clear hle7 hk7
    go_wp2_with fail
    refine (samePairs_c _ _ w7 _ _ kvs kvs HK7.out HPV7.out).mono ?_
    rintro e w8 ⟨rfl, hd8⟩
    rw [show decide (kvs = kvs) = true by simp]
    have HLE8 := Lib.hid (Le.trans HLE7.out hd8.le)
    clear hd8
    go_wp2_with fail
    refine (agrees_c true true 0 true _ rfl (.inr (.inl rfl))).mono ?_
    rintro e w' ⟨rfl, rfl⟩
    go_wp2_with fail
    refine (known_c _ (HL.out.l.le HLE8.out)).mono ?_
    rintro e w9 ⟨rfl, hle9⟩
    have HLE9 := Lib.hid (Le.trans HLE8.out hle9)
    clear hle9
    go_wp2
    go_ret
    exact ⟨rfl, HLE9.out⟩
end Go.Proofs.YteedhaenbamiaaaGreatDoor
