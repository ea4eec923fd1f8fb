/- Contracts: header, HeadText for a CSeq header. -/
import Derived.Test.YtbdeohmdpkkpdaaGreatDoorHead
import Derived.Deep.WholeRow
set_option linter.unusedVariables false
set_option linter.unusedSimpArgs false
namespace Go.Proofs.YtbdeohmdpkkpdaaGreatDoor
open Go.RowKit

theorem head_size : ((Tryz.prog).info? 85).map (·.size) = some 21 := by kernel_rfl

set_option maxRecDepth 4000 in
set_option maxHeartbeats 4000000 in
theorem header_c (φ : Nat → Prop) (w : World) (h : HV) (d m : Tx) (u : PU) (l : KVs) (hq : Hq φ w h d u l) (htx : Bv w h.text m) (hs : u.small) (hr : u.raw = []) (ht : h.t = 5)
    (hkp : KSm 1099511627775 u.ps) (hkh : KSm 1099511627775 u.hs) (hkl : KSm 1099511627775 l) :
    Calls Tryz.prog 95 #[h.val] w fun e w' => ∃ g, e = .returned (.iface 143 (.pointer (some ⟨g, 0, none⟩))) ∧ CsAt w' g h.num m ∧ Le w w' := by
  have hsz : h.row.size = 21 := rfl
  have q1 := run_loadCellsFrom_new (P := Tryz.prog) w 85 h.row 21 rfl
  have q2 := loadAt_row (P := Tryz.prog) (heap_alloc_new w (Obj.cells h.row 85)) Tryz.underlying85 rfl head_size
  have hrow : Hid (h.row = #[.int .i64 5, h.name, h.text, h.disp, h.uri.scheme, h.uri.raw, .bool h.uri.wild, .bool h.uri.slash, h.uri.user, h.uri.pass, h.uri.host, .int .i64 h.uri.port, h.uri.ps, h.uri.hs, h.ps, .int .u32 h.num, h.proto, h.ver, h.tr, h.host, .int .i64 h.port]) := Lib.hid (by unfold HV.row; rw [ht])
  have hval : Hid (h.val = .agg h.row) := Lib.hid rfl
  have HQ := Lib.hid hq
  have HS := Lib.hid hs
  have HT := Lib.hid htx
  clear hq hs htx
  rw [hval.out]
  generalize hR : h.row = R at q1 q2 hrow hval hsz
  have HR := Lib.hid hR
  clear hR
  go_enter Tryz.func95, Tryz.ntmps95
  clear q1 q2
  go_wp2_with (refine wpList_load_row rfl 85 (.tmp 1) rfl w.heap.size rfl 85 R (0, 0) _ (heap_alloc_new w _) Tryz.underlying85 rfl (by rw [hsz]; exact head_size) ?_)
  rw [← hval.out]
  have hle0 : Le w (w.alloc (Obj.cells R 85)) := (Le.refl w).alloc _
  refine (made_c φ _ h d u l ⟨HQ.out.disp.le hle0, HQ.out.uri.le hle0, HQ.out.ps.le hle0⟩ HS.out hr ht hkp hkh hkl).mono ?_
  rintro e w2 ⟨rfl, hle2⟩
  have hb2 : w2.heap[w.heap.size]? = some (Obj.cells R 85) := Le.heap hle2 (heap_alloc_new w _)
  have g0 : w2.cell? ⟨w.heap.size, 0, none⟩ = some (.int .i64 5) := by rw [cell_cells hb2 0, hrow.out]; rfl
  have g2 : w2.cell? ⟨w.heap.size, 2, none⟩ = some h.text := by rw [cell_cells hb2 2, hrow.out]; rfl
  have g15 : w2.cell? ⟨w.heap.size, 15, none⟩ = some (.int .u32 h.num) := by rw [cell_cells hb2 15, hrow.out]; rfl
  have HLE2 : Hid (Le w w2) := Lib.hid (Le.trans hle0 hle2)
  have hc := conv_bs (P := Tryz.prog) Tryz.underlying22 Tryz.underlying5 Tryz.underlying181 (HT.out.le HLE2.out)
  clear hb2 hle2 hle0
  go_wp2
  go_ret
  exact ⟨_, rfl, heap_alloc_new w2 _, HLE2.out.alloc _⟩

set_option maxRecDepth 4000 in
set_option maxHeartbeats 4000000 in
theorem headText_c (φ : Nat → Prop) (w : World) (h : HV) (d m : Tx) (u : PU) (l : KVs) (hq : Hq φ w h d u l) (htx : Bv w h.text m) (hs : u.small) (hr : u.raw = []) (ht : h.t = 5)
    (hkp : KSm 1099511627775 u.ps) (hkh : KSm 1099511627775 u.hs) (hkl : KSm 1099511627775 l) (hL : Laid w) (hn : h.num < 4294967296) (hm0 : m.length ≤ 1099511627776) :
    Calls Tryz.prog 50 #[h.val] w fun e w' => ∃ v1 v2, e = .returned (.tuple #[v1, v2]) ∧ Bq (w.heap.size ≤ ·) w' v1 (csText h.num m) ∧ Bq (w.heap.size ≤ ·) w' v2 (csVal h.num m) ∧ Le w w' := by
  have hsz : h.row.size = 21 := rfl
  have q1 := run_loadCellsFrom_new (P := Tryz.prog) w 85 h.row 21 rfl
  have q2 := loadAt_row (P := Tryz.prog) (heap_alloc_new w (Obj.cells h.row 85)) Tryz.underlying85 rfl head_size
  have hrow : Hid (h.row = #[.int .i64 5, h.name, h.text, h.disp, h.uri.scheme, h.uri.raw, .bool h.uri.wild, .bool h.uri.slash, h.uri.user, h.uri.pass, h.uri.host, .int .i64 h.uri.port, h.uri.ps, h.uri.hs, h.ps, .int .u32 h.num, h.proto, h.ver, h.tr, h.host, .int .i64 h.port]) := Lib.hid (by unfold HV.row; rw [ht])
  have hval : Hid (h.val = .agg h.row) := Lib.hid rfl
  have HQ := Lib.hid hq
  have HS := Lib.hid hs
  have HT := Lib.hid htx
  have HL := Lib.hid hL
  have HIT := Lib.hid (Lib.itoa_length_le h.num (by omega) (by omega))
  clear hq hs htx hL
  rw [hval.out]
  generalize hR : h.row = R at q1 q2 hrow hval hsz
  have HR := Lib.hid hR
  clear hR
  go_enter Tryz.func50, Tryz.ntmps50
  clear q1 q2
  go_wp2_with (refine wpList_load_row rfl 85 (.tmp 1) rfl w.heap.size rfl 85 R (0, 0) _ (heap_alloc_new w _) Tryz.underlying85 rfl (by rw [hsz]; exact head_size) ?_)
  rw [← hval.out]
  have hle0 : Le w (w.alloc (Obj.cells R 85)) := (Le.refl w).alloc _
  refine (header_c φ _ h d m u l ⟨HQ.out.disp.le hle0, HQ.out.uri.le hle0, HQ.out.ps.le hle0⟩ (HT.out.le hle0) HS.out hr ht hkp hkh hkl).mono ?_
  rintro e w2 ⟨g, rfl, hcs, hle2⟩
  have HLE2 : Hid (Le w w2) := Lib.hid (Le.trans hle0 hle2)
  have HCS := Lib.hid hcs
  clear hcs hle2 hle0
  go_wp2_with fail
  refine (csString_c _ g h.num m HCS.out (HL.out.le HLE2.out) hn hm0).mono ?_
  rintro e w3 ⟨rfl, hle3⟩
  have HLE3 : Hid (Le w w3) := Lib.hid (Le.trans HLE2.out hle3)
  have HCS3 : Hid (CsAt w3 g h.num m) := Lib.hid (hle3.heap HCS.out)
  clear hle3
  obtain ⟨B, c, W, q, le1, bt⟩ := conv_mk (base := w.heap.size) w3 (st (csText h.num m)) HLE3.out.size (by have := HIT.out; unfold csText csVal; simp only [st_size, List.length_append, List.length_cons, List.length_nil]; omega)
  rw [bs_st] at bt
  have HB := Lib.hid bt
  have HLE4 : Hid (Le w W) := Lib.hid (Le.trans HLE3.out le1)
  have HCS4 : Hid (CsAt W g h.num m) := Lib.hid (le1.heap HCS3.out)
  clear bt le1
  go_wp2_with fail
  refine (csValue_c _ g h.num m HCS4.out (HL.out.le HLE4.out) hn hm0).mono ?_
  rintro e w5 ⟨rfl, hle5⟩
  have HLE5 : Hid (Le w w5) := Lib.hid (Le.trans HLE4.out hle5)
  have HB5 := Lib.hid (HB.out.le hle5)
  clear hle5
  obtain ⟨B2, c2, W2, q2, le2, bt2⟩ := conv_mk (base := w.heap.size) w5 (st (csVal h.num m)) HLE5.out.size (by have := HIT.out; unfold csVal; simp only [st_size, List.length_append, List.length_cons, List.length_nil]; omega)
  rw [bs_st] at bt2
  have HB6 := Lib.hid (HB5.out.le le2)
  have HB7 := Lib.hid bt2
  have HLE6 : Hid (Le w W2) := Lib.hid (Le.trans HLE5.out le2)
  clear bt2 le2
  go_wp2
  go_ret2
  exact ⟨_, _, rfl, ⟨HB6.out.1, fun g h => (HB6.out.2 g h).1⟩, ⟨HB7.out.1, fun g h => (HB7.out.2 g h).1⟩, HLE6.out⟩
end Go.Proofs.YtbdeohmdpkkpdaaGreatDoor
