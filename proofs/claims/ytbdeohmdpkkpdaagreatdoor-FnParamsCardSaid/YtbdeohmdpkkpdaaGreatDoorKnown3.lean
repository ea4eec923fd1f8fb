/- Contract: known (the claim that all statements end with). -/
import Derived.Test.YtbdeohmdpkkpdaaGreatDoorKnown2
import Derived.Test.YtbdeohmdpkkpdaaGreatDoorLawU2
set_option linter.unusedVariables false
set_option linter.unusedSimpArgs false
namespace Go.Proofs.YtbdeohmdpkkpdaaGreatDoor
open Go.RowKit

def kText : Tx := [115, 105, 112, 58, 98, 111, 98, 64, 98, 46, 111, 114, 103, 58, 53, 48, 55, 48]
def kUri : PU := uri4 [98, 111, 98] [98, 46, 111, 114, 103] 5070
def kInv : Tx := [73, 78, 86, 73, 84, 69]
def kLine : Tx := [67, 83, 101, 113, 58, 32, 55, 32, 73, 78, 86, 73, 84, 69]
theorem k_told : sUri kText = .val kUri := by rfl
theorem k_text : uText kUri = kText := by kernel_rfl
theorem k_line : csText 7 kInv = kLine := by kernel_rfl
theorem k_host : hostPlain kUri.host := fun x hx => by
  have : x ∈ ([98, 46, 111, 114, 103] : Tx) := hx
  revert x; decide
theorem k_small : kUri.small := by unfold kUri uri4 PU.small sSip; simp
theorem k_read {r : PU} {ok : Bool} (h : PTop kText PU.zero (if ok = true then some r else none)) : ok = true ∧ r = kUri := by
  have h1 := law h
  rw [k_told] at h1
  cases ok with
  | true => exact ⟨rfl, by injection h1⟩
  | false => cases h1
def UV.nil : UV := ⟨.slice none 0 0, .slice none 0 0, false, false, .slice none 0 0, .slice none 0 0, .slice none 0 0, 0, .slice none 0 0, .slice none 0 0⟩
theorem uq_nil (φ : Nat → Prop) (w : World) : Uq φ w UV.nil PU.zero := ⟨Bq.nil _ _, Bq.nil _ _, rfl, rfl, Bq.nil _ _, Bq.nil _ _, Bq.nil _ _, rfl, Kq.nil _ _, Kq.nil _ _⟩
def kHead (v : Value) : HV := ⟨5, .slice none 0 0, v, .slice none 0 0, UV.nil, .slice none 0 0, 7, .slice none 0 0, .slice none 0 0, .slice none 0 0, .slice none 0 0, 0⟩
/-- bytes that a literal lays -/
theorem bv_lit (w : World) (l : Tx) (hl : l.length ≤ 1099511627776) (fz : Nat × Nat) : Bv (w.alloc (Obj.cells (l.map fun c => Value.int .u8 (c.toNat : Int)).toArray 5 fz)) (.slice (some ⟨w.heap.size, 0, none⟩) l.length l.length) l := by
  refine ⟨_, _, rfl, Nat.le_refl _, by omega, by omega, fun _ => ⟨_, _, rfl, fun j hj => ?_⟩⟩
  have e := cell_cells (heap_alloc_new w (Obj.cells (l.map fun c => Value.int .u8 (c.toNat : Int)).toArray 5 fz)) (0 + j)
  rw [e]
  simp [List.getElem?_eq_getElem hj]
theorem is_b (w : World) (a : Value) (la lb : Tx) (s : ByteArray) (ha : Bv w a la) (hs : bs s = lb) (hl : lb.length ≤ 140737488355328) (h : la = lb) :
    Calls Tryz.prog 51 #[a, .string s] w fun e w' => e = .returned (.bool true) ∧ Le w w' := by
  have := is_c w a la s ha (by rw [← bs_len, hs]; exact hl)
  rw [hs, decide_eq_true h] at this
  exact this

set_option maxRecDepth 8000 in
set_option maxHeartbeats 4000000 in
theorem known_c (w : World) (hL : Laid w) : Calls Tryz.prog 14 #[] w fun e w' => e = .returned (.bool true) ∧ Le w w' := by
  have HL := Lib.hid hL
  clear hL
  go_enter Tryz.func14, Tryz.ntmps14
  go_wp2_with fail
  refine (uri_c _ (st [98, 111, 98]) (st [98, 46, 111, 114, 103]) 5070 (by decide) (by decide)).mono ?_
  rintro e w1 ⟨x, rfl, hx, hle1⟩
  rw [bs_st, bs_st] at hx
  have HX := Lib.hid hx
  have HLE1 := Lib.hid hle1
  obtain ⟨R, hR, hRs⟩ : ∃ R, x.val = .agg R ∧ R = x.row := ⟨_, rfl, rfl⟩
  have hone : R.all (·.oneCell') = true := by rw [hRs]; exact hx.one
  have hsz : R.size = 10 := by rw [hRs]; rfl
  have HR := Lib.hid hR
  have HRS := Lib.hid hRs
  have hst := run_storeCells_new (P := Tryz.prog) w1 78 #[.slice none 0 0, .slice none 0 0, .bool false, .bool false, .slice none 0 0, .slice none 0 0, .slice none 0 0, .int .i64 0, .slice none 0 0, .slice none 0 0] R (by rw [hsz]; exact uri_size) (by rw [hsz]; rfl) hone
  rw [hR]
  clear hx hle1 hR hRs hone
  have qc := Joins.run_convert_bytes_const_at (P := Tryz.prog) (w1.alloc (Obj.cells R 78)) 22 5 #[.int .u8 115, .int .u8 105, .int .u8 112, .int .u8 58, .int .u8 98, .int .u8 111, .int .u8 98, .int .u8 64, .int .u8 98, .int .u8 46, .int .u8 111, .int .u8 114, .int .u8 103, .int .u8 58, .int .u8 53, .int .u8 48, .int .u8 55, .int .u8 48] 18 18 (w1.heap.size + 1) (by simp) Tryz.underlying22 Tryz.underlying5
  go_wp2_with fail
  have hbv : Bv ((w1.alloc (Obj.cells R 78)).alloc (Obj.cells (kText.map fun c => Value.int .u8 (c.toNat : Int)).toArray 5 (18, 19))) (.slice (some ⟨w1.heap.size + 1, 0, none⟩) 18 18) kText := by
    have := bv_lit (w1.alloc (Obj.cells R 78)) kText (by decide) (18, 19)
    have e : (w1.alloc (Obj.cells R 78)).heap.size = w1.heap.size + 1 := by simp
    rw [e] at this
    exact this
  have hle2 : Le w ((w1.alloc (Obj.cells R 78)).alloc (Obj.cells (kText.map fun c => Value.int .u8 (c.toNat : Int)).toArray 5 (18, 19))) := (HLE1.out.alloc _).alloc _
  have hb1 : ((w1.alloc (Obj.cells R 78)).alloc (Obj.cells (kText.map fun c => Value.int .u8 (c.toNat : Int)).toArray 5 (18, 19))).heap[w1.heap.size]? = some (Obj.cells R 78) := heap_alloc2_old w1 _ _
  have HX2 := Lib.hid (HX.out.le (((Le.refl w1).alloc (Obj.cells R 78)).alloc (Obj.cells (kText.map fun c => Value.int .u8 (c.toNat : Int)).toArray 5 (18, 19))))
  refine (iparse_c _ _ kText hbv (by decide) (HL.out.le hle2)).mono ?_
  rintro e w3 ⟨hle3, y, ok, r, rfl, hy, hpt⟩
  obtain ⟨rfl, rfl⟩ := k_read hpt
  have HX3 := Lib.hid (HX2.out.le hle3)
  have HY3 := Lib.hid hy
  have HB3 := Lib.hid (hle3.heap hb1)
  have HLE3 := Lib.hid (Le.trans hle2 hle3)
  obtain ⟨S, hS, hSs⟩ : ∃ S, y.val = .agg S ∧ S = y.row := ⟨_, rfl, rfl⟩
  have hone2 : S.all (·.oneCell') = true := by rw [hSs]; exact hy.one
  have hsz2 : S.size = 10 := by rw [hSs]; rfl
  have HS := Lib.hid hS
  have HSS := Lib.hid hSs
  have hst2 := run_storeCells_new (P := Tryz.prog) w3 78 #[.slice none 0 0, .slice none 0 0, .bool false, .bool false, .slice none 0 0, .slice none 0 0, .slice none 0 0, .int .i64 0, .slice none 0 0, .slice none 0 0] S (by rw [hsz2]; exact uri_size) (by rw [hsz2]; rfl) hone2
  rw [hS]
  clear hbv hle2 hb1 HX2 HX hle3 hy hpt hS hSs hone2 hst qc
  have qc := Joins.run_convert_bytes_const_at (P := Tryz.prog) (w3.alloc (Obj.cells S 78)) 22 5 #[.int .u8 73, .int .u8 78, .int .u8 86, .int .u8 73, .int .u8 84, .int .u8 69] 6 6 (w3.heap.size + 1) (by simp) Tryz.underlying22 Tryz.underlying5
  go_wp2_with fail
  have hbv : Bv ((w3.alloc (Obj.cells S 78)).alloc (Obj.cells (kInv.map fun c => Value.int .u8 (c.toNat : Int)).toArray 5 (6, 7))) (.slice (some ⟨w3.heap.size + 1, 0, none⟩) 6 6) kInv := by
    have := bv_lit (w3.alloc (Obj.cells S 78)) kInv (by decide) (6, 7)
    have e : (w3.alloc (Obj.cells S 78)).heap.size = w3.heap.size + 1 := by simp
    rw [e] at this
    exact this
  have hle4 : Le w3 ((w3.alloc (Obj.cells S 78)).alloc (Obj.cells (kInv.map fun c => Value.int .u8 (c.toNat : Int)).toArray 5 (6, 7))) := ((Le.refl w3).alloc _).alloc _
  have hb3 : ((w3.alloc (Obj.cells S 78)).alloc (Obj.cells (kInv.map fun c => Value.int .u8 (c.toNat : Int)).toArray 5 (6, 7))).heap[w3.heap.size]? = some (Obj.cells S 78) := heap_alloc2_old w3 _ _
  refine (headText_c (fun _ => True) _ (kHead (.slice (some ⟨w3.heap.size + 1, 0, none⟩) 6 6)) [] kInv PU.zero [] ⟨Bq.nil _ _, uq_nil _ _, Kq.nil _ _⟩ hbv (by unfold PU.zero PU.small; simp) rfl rfl ⟨by decide, by intro z hz; cases hz⟩ ⟨by decide, by intro z hz; cases hz⟩ ⟨by decide, by intro z hz; cases hz⟩ (HL.out.le (Le.trans HLE3.out hle4)) (show (7 : Nat) < 4294967296 by decide) (by decide)).mono ?_
  rintro e w5 ⟨v1, v2, rfl, hv1, hv2, hle5⟩
  have hq : Hid (Bv w5 v1 kLine) := Lib.hid (by have := hv1.1; rw [show (kHead (.slice (some ⟨w3.heap.size + 1, 0, none⟩) 6 6)).num = 7 from rfl, k_line] at this; exact this)
  have HX5 := Lib.hid ((HX3.out.le hle4).le hle5)
  have HY5 := Lib.hid ((HY3.out.le hle4).le hle5)
  have HB5 := Lib.hid (hle5.heap (hle4.heap HB3.out))
  have HC5 := Lib.hid (hle5.heap hb3)
  have HLE5 := Lib.hid (Le.trans (Le.trans HLE3.out hle4) hle5)
  clear hbv hle4 hb3 hst2 qc hv1 hv2 hle5
  go_wp2_with (refine wpList_load_row rfl 78 (.tmp 1) rfl w1.heap.size rfl 78 R (0, 0) _ HB5.out Tryz.underlying78 rfl (by rw [hsz]; exact uri_size) ?_)
  rw [← HR.out]
  refine (uriText_c _ _ x kUri HX5.out k_small rfl (HL.out.le HLE5.out) k_host ⟨by decide, by intro z hz; cases hz⟩ ⟨by decide, by intro z hz; cases hz⟩ (by decide) (by decide)).mono ?_
  rintro e w6 ⟨v3, rfl, hv3, hle6⟩
  rw [k_text] at hv3
  have HQ6 := Lib.hid (hq.out.le hle6)
  have HX6 := Lib.hid (HX5.out.le hle6)
  have HY6 := Lib.hid (HY5.out.le hle6)
  have HB6 := Lib.hid (hle6.heap HB5.out)
  have HC6 := Lib.hid (hle6.heap HC5.out)
  have HLE6 := Lib.hid (Le.trans HLE5.out hle6)
  have HV6 := Lib.hid hv3.1
  clear hv3 hle6 HX5 HY5 HB5 HC5 HX3 HY3 HB3
  go_wp2_with fail
  refine (is_b _ _ _ kText _ HV6.out rfl (by decide) rfl).mono ?_
  rintro e w7 ⟨rfl, hle7⟩
  have HQ7 := Lib.hid (HQ6.out.le hle7)
  have HX7 := Lib.hid (HX6.out.le hle7)
  have HY7 := Lib.hid (HY6.out.le hle7)
  have HB7 := Lib.hid (hle7.heap HB6.out)
  have HC7 := Lib.hid (hle7.heap HC6.out)
  have HLE7 := Lib.hid (Le.trans HLE6.out hle7)
  clear hle7
  have xc0 : w7.cell? ⟨w1.heap.size, 0, none⟩ = some (x.scheme) := by rw [cell_cells HB7.out 0, HRS.out]; rfl
  have xc1 : w7.cell? ⟨w1.heap.size, 1, none⟩ = some (x.raw) := by rw [cell_cells HB7.out 1, HRS.out]; rfl
  have xc2 : w7.cell? ⟨w1.heap.size, 2, none⟩ = some (.bool x.wild) := by rw [cell_cells HB7.out 2, HRS.out]; rfl
  have xc3 : w7.cell? ⟨w1.heap.size, 3, none⟩ = some (.bool x.slash) := by rw [cell_cells HB7.out 3, HRS.out]; rfl
  have xc4 : w7.cell? ⟨w1.heap.size, 4, none⟩ = some (x.user) := by rw [cell_cells HB7.out 4, HRS.out]; rfl
  have xc5 : w7.cell? ⟨w1.heap.size, 5, none⟩ = some (x.pass) := by rw [cell_cells HB7.out 5, HRS.out]; rfl
  have xc6 : w7.cell? ⟨w1.heap.size, 6, none⟩ = some (x.host) := by rw [cell_cells HB7.out 6, HRS.out]; rfl
  have xc7 : w7.cell? ⟨w1.heap.size, 7, none⟩ = some (.int .i64 x.port) := by rw [cell_cells HB7.out 7, HRS.out]; rfl
  have xc8 : w7.cell? ⟨w1.heap.size, 8, none⟩ = some (x.ps) := by rw [cell_cells HB7.out 8, HRS.out]; rfl
  have xc9 : w7.cell? ⟨w1.heap.size, 9, none⟩ = some (x.hs) := by rw [cell_cells HB7.out 9, HRS.out]; rfl
  have yc0 : w7.cell? ⟨w3.heap.size, 0, none⟩ = some (y.scheme) := by rw [cell_cells HC7.out 0, HSS.out]; rfl
  have yc1 : w7.cell? ⟨w3.heap.size, 1, none⟩ = some (y.raw) := by rw [cell_cells HC7.out 1, HSS.out]; rfl
  have yc2 : w7.cell? ⟨w3.heap.size, 2, none⟩ = some (.bool y.wild) := by rw [cell_cells HC7.out 2, HSS.out]; rfl
  have yc3 : w7.cell? ⟨w3.heap.size, 3, none⟩ = some (.bool y.slash) := by rw [cell_cells HC7.out 3, HSS.out]; rfl
  have yc4 : w7.cell? ⟨w3.heap.size, 4, none⟩ = some (y.user) := by rw [cell_cells HC7.out 4, HSS.out]; rfl
  have yc5 : w7.cell? ⟨w3.heap.size, 5, none⟩ = some (y.pass) := by rw [cell_cells HC7.out 5, HSS.out]; rfl
  have yc6 : w7.cell? ⟨w3.heap.size, 6, none⟩ = some (y.host) := by rw [cell_cells HC7.out 6, HSS.out]; rfl
  have yc7 : w7.cell? ⟨w3.heap.size, 7, none⟩ = some (.int .i64 y.port) := by rw [cell_cells HC7.out 7, HSS.out]; rfl
  have yc8 : w7.cell? ⟨w3.heap.size, 8, none⟩ = some (y.ps) := by rw [cell_cells HC7.out 8, HSS.out]; rfl
  have yc9 : w7.cell? ⟨w3.heap.size, 9, none⟩ = some (y.hs) := by rw [cell_cells HC7.out 9, HSS.out]; rfl
  go_wp2_with fail
  refine (sameUri_c _ _ _ x y kUri kUri HX7.out HY7.out).mono ?_
  rintro e w8 ⟨rfl, hle8⟩
  rw [show puB kUri kUri = true from (puB_iff _ _).2 rfl]
  have HQ8 := Lib.hid (HQ7.out.le hle8)
  have HLE8 := Lib.hid (Le.trans HLE7.out hle8)
  clear hle8
  go_wp2_with fail
  refine (is_b _ _ _ kLine _ HQ8.out rfl (by decide) rfl).mono ?_
  rintro e w9 ⟨rfl, hle9⟩
  have HLE9 := Lib.hid (Le.trans HLE8.out hle9)
  clear hle9
  go_wp2
  go_ret
  exact ⟨rfl, HLE9.out⟩
end Go.Proofs.YtbdeohmdpkkpdaaGreatDoor
