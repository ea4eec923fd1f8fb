/- Contracts: the laws' isUriOf, FnParseUri (printed by gen_fnparse.py). -/
import Derived.Test.YtainljmnhocbgaaGreatDoorSpW9
import Derived.Test.YtainljmnhocbgaaGreatDoorUriOf
set_option linter.unusedVariables false
set_option linter.unusedSimpArgs false
namespace Go.Proofs.YtainljmnhocbgaaGreatDoor
open Go.RowKit

def ioS (w : World) (x z : UV) (u v2 : PU) : Nat → Value → World → Prop
  | 2, v, _ => v = (.pointer (some ⟨w.heap.size, 0, none⟩))
  | 3, v, _ => v = (.pointer (some ⟨w.heap.size + 1, 0, none⟩))
  | 5, v, _ => v = x.val
  | 6, v, W => ∃ y : UV, v = y.val ∧ Uq (fun _ => True) W y u
  | 7, v, _ => v = z.val
  | 8, v, _ => v = .bool (puB u v2)
  | 4, v, _ => v = .bool (puB u v2)
  | _, _, _ => True
theorem ioS_le (w : World) (x z : UV) (u v2 : PU) (t : Nat) (v : Value) (w1 w2 : World) (k : Le w1 w2) (h : ioS w x z u v2 t v w1) : ioS w x z u v2 t v w2 := by
  unfold ioS at h ⊢
  split at h <;> first | exact h | (obtain ⟨y, e, h⟩ := h; exact ⟨y, e, h.le k⟩)
def ioG (w : World) (x z : UV) (W : World) : Prop := Le w W ∧ W.heap[w.heap.size]? = some (.cells x.row 26 (0, 0)) ∧ W.heap[w.heap.size + 1]? = some (.cells z.row 31 (0, 0))
set_option maxRecDepth 4000 in
set_option maxHeartbeats 4000000 in
theorem isUriOf_c (φ ψ : Nat → Prop) (w : World) (x z : UV) (u v2 : PU) (hx : Uq φ w x u) (hz : Uq ψ w z v2) (hpl : u.ps.length ≤ 1099511627776) (hhl : u.hs.length ≤ 1099511627776) :
    Calls Tryz.prog 12 #[x.val, z.val] w fun e w' => e = .returned (.bool (puB u v2)) ∧ Le w w' := by
  have HX := Lib.hid hx
  have HZ := Lib.hid hz
  have hval : Hid (x.val = .agg #[x.scheme, x.raw, .bool x.wild, .bool x.slash, x.user, x.pass, x.host, .int .i64 x.port, x.ps, x.hs]) := Lib.hid rfl
  have hval2 : Hid (z.val = .agg #[z.scheme, z.raw, .bool z.wild, .bool z.slash, z.user, z.pass, z.host, .int .i64 z.port, z.ps, z.hs]) := Lib.hid rfl
  clear hx hz
  rw [hval.out, hval2.out]
  go_enter Tryz.func12, Tryz.ntmps12
  go_wp2
  have hm : (Tryz.prog).follows .mixedOrders = true := by kernel_rfl
  have hGl : ∀ w1 w2, Le w1 w2 → ioG w x z w1 → ioG w x z w2 := fun w1 w2 k h => ⟨Le.trans h.1 k, k.heap h.2.1, k.heap h.2.2⟩
  refine wp_region_grow_put (ioS w x z u v2) (fun _ _ => True) (ioG w x z) 9 [5, 6, 7, 8, 4] hm (by kernel_rfl) rfl rfl ?hG ?hold ?hs ?hend
  case hG => exact ⟨(((Le.refl w).alloc _).alloc _).drew, heap_alloc2_old w _ _, heap_alloc2_new w _ _⟩
  case hold =>
    intro t ht
    simp only [List.mem_cons, List.mem_nil_iff, or_false, not_or] at ht
    unfold ioS
    split <;> first | rfl | trivial | (exfalso; simp at ht)
  case hs =>
    refine ⟨?_, ?_, ?_, ?_, ?_, trivial⟩
    · refine GrowStep.det ?_
      intro a W hg hop
      have h0 : a.eval (.tmp 2) = (.pointer (some ⟨w.heap.size, 0, none⟩)) := (hop 2 (by simp [Op.operands, Call.operands]))
      refine ⟨x.val, ?_, rfl⟩
      have hs := loadAt_row (P := Tryz.prog) hg.2.1 Tryz.underlying26 rfl uri_size
      simp only [execOp, h0, hs, Sem.run_bind, Sem.run_pure, Result.andThen, Sem.run_map]
      rfl
    · refine GrowStep.call ?_ ?_ ?_ ?_
      · exact fun t v w1 w2 k h => ioS_le w x z u v2 t v w1 w2 k h
      · exact fun _ _ _ _ h => h
      · exact hGl
      intro a W hg hop
      have h0 : a.eval (.tmp 5) = x.val := (hop 5 (by simp [Op.operands, Call.operands]))
      have h0' : a.tmps[5]?.getD undef = x.val := by simpa [Act.eval] using h0
      refine ⟨37, #[x.val], ?_, (uriOf_c φ W x u (HX.out.le hg.1) hpl hhl).mono ?_⟩
      · simp only [execOp, h0]
        go_simp
      · rintro e w' ⟨y, rfl, hy, hle⟩; exact ⟨_, rfl, hle, y, rfl, hy⟩
    · refine GrowStep.det ?_
      intro a W hg hop
      have h0 : a.eval (.tmp 3) = (.pointer (some ⟨w.heap.size + 1, 0, none⟩)) := (hop 3 (by simp [Op.operands, Call.operands]))
      refine ⟨z.val, ?_, rfl⟩
      have hs := loadAt_row (P := Tryz.prog) hg.2.2 Tryz.underlying31 rfl spu_sizeU
      simp only [execOp, h0, hs, Sem.run_bind, Sem.run_pure, Result.andThen, Sem.run_map]
      rfl
    · refine GrowStep.call ?_ ?_ ?_ ?_
      · exact fun t v w1 w2 k h => ioS_le w x z u v2 t v w1 w2 k h
      · exact fun _ _ _ _ h => h
      · exact hGl
      intro a W hg hop
      obtain ⟨y, h0, hy⟩ : ∃ y : UV, a.eval (.tmp 6) = y.val ∧ Uq (fun _ => True) W y u := (hop 6 (by simp [Op.operands, Call.operands]))
      have h1 : a.eval (.tmp 7) = z.val := (hop 7 (by simp [Op.operands, Call.operands]))
      have h0' : a.tmps[6]?.getD undef = y.val := by simpa [Act.eval] using h0
      have h1' : a.tmps[7]?.getD undef = z.val := by simpa [Act.eval] using h1
      refine ⟨36, #[y.val, z.val], ?_, (sSameUri_c _ ψ W y z u v2 hy (HZ.out.le hg.1)).mono ?_⟩
      · simp only [execOp, h0, h1]
        go_simp
      · rintro e w' ⟨rfl, hle⟩; exact ⟨_, rfl, hle, rfl⟩
    · refine GrowStep.det ?_
      intro a W hg hop
      have h0 : a.eval (.tmp 8) = .bool (puB u v2) := (hop 8 (by simp [Op.operands, Call.operands]))
      refine ⟨.bool (puB u v2), ?_, rfl⟩
      simp only [execOp, h0]
      go_simp
  case hend =>
    intro v w' hg hS hZ
    have s4 : v 4 = .bool (puB u v2) := hS 4 (by decide)
    have HG := Lib.hid hg.1
    clear hS hZ hg
    simp only [putsL, Act.put, List.setIfInBounds_toArray, List.set_cons_zero, List.set_cons_succ]
    rw [s4]
    go_wp2
    go_ret
    exact ⟨rfl, HG.out⟩

theorem row_one_cells {R : Array Value} {x : UV} (h : R = x.row) {φ : Nat → Prop} {w : World} {u : PU} (hx : Uq φ w x u) : R.all (·.oneCell') = true := by rw [h]; exact hx.one
set_option maxRecDepth 8000 in
set_option maxHeartbeats 8000000 in
theorem fnParseUri_c (w : World) (v : Value) (l : Tx) (hv : Bv w v l) (hL : Laid w) :
    Calls Tryz.prog 3 #[v] w fun e w' => e = .returned (.bool true) ∧ Le w w' := by
  have HV := Lib.hid hv
  have HL := Lib.hid hL
  obtain ⟨A0, c0, rfl, hl0⟩ := bv_slice hv
  clear hv hL
  by_cases h1 : 2147483647 < l.length
  · have h1' : (2147483647 : Int) < l.length := by omega
    go_enter Tryz.func3, Tryz.ntmps3
    go_wp2
    go_ret
    exact ⟨rfl, Le.refl w⟩
  have h1' : (l.length : Int) ≤ 2147483647 := by omega
  by_cases h2 : 8192 < l.length
  · have h2' : (8192 : Int) < l.length := by omega
    go_enter Tryz.func3, Tryz.ntmps3
    go_wp2_with fail
    refine (known_c w HL.out).mono ?_
    rintro e w' ⟨rfl, hle⟩
    have HLE := Lib.hid hle
    clear hle
    go_wp2
    go_ret
    exact ⟨rfl, HLE.out⟩
  have h2' : (l.length : Int) ≤ 8192 := by omega
  go_enter Tryz.func3, Tryz.ntmps3
  go_wp2_with fail
  refine (iparse_c w _ l HV.out (by omega) HL.out).mono ?_
  rintro e w1 ⟨hle1, x, ok, r, rfl, hx, hpt⟩
  have HLE1 := Lib.hid hle1
  have HX := Lib.hid hx
  have HLAW := Lib.hid (law hpt)
  obtain ⟨R, hR, hRs⟩ : ∃ R, x.val = .agg R ∧ R = x.row := ⟨_, rfl, rfl⟩
  have hone : R.all (·.oneCell') = true := row_one_cells hRs hx
  have hsz : R.size = 10 := by rw [hRs]; rfl
  have HR := Lib.hid hR
  have HRS := Lib.hid hRs
  have hst := run_storeCells_new (P := Tryz.prog) w1 26 #[(.slice none 0 0), (.slice none 0 0), .bool false, .bool false, (.slice none 0 0), (.slice none 0 0), (.slice none 0 0), .int .i64 0, (.slice none 0 0), (.slice none 0 0)] R (by rw [hsz]; exact uri_size) (by rw [hsz]; rfl) hone
  rw [hR]
  clear hle1 hx hpt hR hRs hone
  go_wp2_with fail
  have hle2 : Le w (w1.alloc (Obj.cells R 26)) := HLE1.out.alloc _
  have HB1 := Lib.hid (heap_alloc_new w1 (Obj.cells R 26))
  have HXa := Lib.hid (HX.out.le ((Le.refl w1).alloc (Obj.cells R 26)))
  refine (parse_c _ l _ (HV.out.le hle2) (by omega)).mono ?_
  rintro e w3 ⟨z, kd, rfl, hle3, hzone, hm⟩
  have HLE3 := Lib.hid (Le.trans hle2 hle3)
  have HM := Lib.hid hm
  have HX3 := Lib.hid (HXa.out.le hle3)
  have HB3 := Lib.hid (hle3.heap HB1.out)
  obtain ⟨S, hS, hSs⟩ : ∃ S, z.val = .agg S ∧ S = z.row := ⟨_, rfl, rfl⟩
  have hsz2 : S.size = 10 := by rw [hSs]; rfl
  rw [← hSs] at hzone
  have HS := Lib.hid hS
  have HSS := Lib.hid hSs
  have hst2 := run_storeCells_new (P := Tryz.prog) w3 31 #[(.slice none 0 0), (.slice none 0 0), .bool false, .bool false, (.slice none 0 0), (.slice none 0 0), (.slice none 0 0), .int .i64 0, (.slice none 0 0), (.slice none 0 0)] S (by rw [hsz2]; exact spu_size) (by rw [hsz2]; rfl) hzone
  rw [hS]
  clear hle2 hle3 hm hst HX HXa HB1 hS hSs hzone
  have HLE4 : Hid (Le w (w3.alloc (Obj.cells S 31))) := Lib.hid (HLE3.out.alloc _)
  have HX4 := Lib.hid (HX3.out.le ((Le.refl w3).alloc (Obj.cells S 31)))
  have HB4 := Lib.hid (((Le.refl w3).alloc (Obj.cells S 31)).heap HB3.out)
  have HC4 := Lib.hid (heap_alloc_new w3 (Obj.cells S 31))
  have HL34 := Lib.hid ((Le.refl w3).alloc (Obj.cells S 31))
  go_upto_region 7 with fail
  generalize w3.alloc (Obj.cells S 31) = W4 at HLE4 HX4 HB4 HC4 HL34 ⊢
  clear HX3 HB3 hst2
  have xc0 : W4.cell? ⟨w1.heap.size, 0, none⟩ = some (x.scheme) := by rw [cell_cells HB4.out 0, HRS.out]; rfl
  have xc1 : W4.cell? ⟨w1.heap.size, 1, none⟩ = some (x.raw) := by rw [cell_cells HB4.out 1, HRS.out]; rfl
  have xc2 : W4.cell? ⟨w1.heap.size, 2, none⟩ = some (.bool x.wild) := by rw [cell_cells HB4.out 2, HRS.out]; rfl
  have xc3 : W4.cell? ⟨w1.heap.size, 3, none⟩ = some (.bool x.slash) := by rw [cell_cells HB4.out 3, HRS.out]; rfl
  have xc4 : W4.cell? ⟨w1.heap.size, 4, none⟩ = some (x.user) := by rw [cell_cells HB4.out 4, HRS.out]; rfl
  have xc5 : W4.cell? ⟨w1.heap.size, 5, none⟩ = some (x.pass) := by rw [cell_cells HB4.out 5, HRS.out]; rfl
  have xc6 : W4.cell? ⟨w1.heap.size, 6, none⟩ = some (x.host) := by rw [cell_cells HB4.out 6, HRS.out]; rfl
  have xc7 : W4.cell? ⟨w1.heap.size, 7, none⟩ = some (.int .i64 x.port) := by rw [cell_cells HB4.out 7, HRS.out]; rfl
  have xc8 : W4.cell? ⟨w1.heap.size, 8, none⟩ = some (x.ps) := by rw [cell_cells HB4.out 8, HRS.out]; rfl
  have xc9 : W4.cell? ⟨w1.heap.size, 9, none⟩ = some (x.hs) := by rw [cell_cells HB4.out 9, HRS.out]; rfl
  have zc0 : W4.cell? ⟨w3.heap.size, 0, none⟩ = some (z.scheme) := by rw [cell_cells HC4.out 0, HSS.out]; rfl
  have zc1 : W4.cell? ⟨w3.heap.size, 1, none⟩ = some (z.raw) := by rw [cell_cells HC4.out 1, HSS.out]; rfl
  have zc2 : W4.cell? ⟨w3.heap.size, 2, none⟩ = some (.bool z.wild) := by rw [cell_cells HC4.out 2, HSS.out]; rfl
  have zc3 : W4.cell? ⟨w3.heap.size, 3, none⟩ = some (.bool z.slash) := by rw [cell_cells HC4.out 3, HSS.out]; rfl
  have zc4 : W4.cell? ⟨w3.heap.size, 4, none⟩ = some (z.user) := by rw [cell_cells HC4.out 4, HSS.out]; rfl
  have zc5 : W4.cell? ⟨w3.heap.size, 5, none⟩ = some (z.pass) := by rw [cell_cells HC4.out 5, HSS.out]; rfl
  have zc6 : W4.cell? ⟨w3.heap.size, 6, none⟩ = some (z.host) := by rw [cell_cells HC4.out 6, HSS.out]; rfl
  have zc7 : W4.cell? ⟨w3.heap.size, 7, none⟩ = some (.int .i64 z.port) := by rw [cell_cells HC4.out 7, HSS.out]; rfl
  have zc8 : W4.cell? ⟨w3.heap.size, 8, none⟩ = some (z.ps) := by rw [cell_cells HC4.out 8, HSS.out]; rfl
  have zc9 : W4.cell? ⟨w3.heap.size, 9, none⟩ = some (z.hs) := by rw [cell_cells HC4.out 9, HSS.out]; rfl
  cases hU : sUri l with
  | told =>
    have hm := HM.out
    rw [hU] at hm
    have hlw := HLAW.out
    rw [hU] at hlw
    obtain rfl : kd = -1 := hm
    have hok : ok = false := by cases ok with | false => rfl | true => cases hlw
    subst hok
    go_wp2_with fail
    refine (agrees_c false false (-1) true _ rfl (.inr (.inr rfl))).mono ?_
    rintro e w' ⟨rfl, rfl⟩
    go_wp2_with fail
    refine (known_c _ (HL.out.le HLE4.out)).mono ?_
    rintro e w9 ⟨rfl, hle9⟩
    have HLE9 := Lib.hid (Le.trans HLE4.out hle9)
    clear hle9
    go_wp2
    go_ret
    exact ⟨rfl, HLE9.out⟩
  | open_ =>
    have hm := HM.out
    rw [hU] at hm
    obtain rfl : kd = -2 := hm
    go_wp2_with fail
    refine (agrees_c ok false (-2) true _ rfl (.inl rfl)).mono ?_
    rintro e w' ⟨rfl, rfl⟩
    go_wp2_with fail
    refine (known_c _ (HL.out.le HLE4.out)).mono ?_
    rintro e w9 ⟨rfl, hle9⟩
    have HLE9 := Lib.hid (Le.trans HLE4.out hle9)
    clear hle9
    go_wp2
    go_ret
    exact ⟨rfl, HLE9.out⟩
  | val u =>
    have hm := HM.out
    rw [hU] at hm
    have hlw := HLAW.out
    rw [hU] at hlw
    obtain ⟨hkd, hz⟩ := hm
    subst hkd
    have hok : ok = true ∧ r = u := by
      cases ok with
      | false => cases hlw
      | true => exact ⟨rfl, by injection hlw⟩
    obtain ⟨rfl, rfl⟩ := hok
    have HZ4 := Lib.hid (hz.le HL34.out)
    have hl1 : r.ps.length ≤ 1099511627776 := by obtain ⟨_, _, _, _, _, h, _⟩ := hz.ps; exact h
    have hl2 : r.hs.length ≤ 1099511627776 := by obtain ⟨_, _, _, _, _, h, _⟩ := hz.hs; exact h
    clear hlw hz
    go_wp2_with fail
    refine (isUriOf_c _ _ _ x z r r HX4.out HZ4.out hl1 hl2).mono ?_
    rintro e w5 ⟨rfl, hle5⟩
    rw [show puB r r = true from (puB_iff _ _).2 rfl]
    have HLE5 := Lib.hid (Le.trans HLE4.out hle5)
    clear hle5
    go_wp2_with fail
    refine (agrees_c true true 0 true _ rfl (.inr (.inl rfl))).mono ?_
    rintro e w' ⟨rfl, rfl⟩
    go_wp2_with fail
    refine (known_c _ (HL.out.le HLE5.out)).mono ?_
    rintro e w9 ⟨rfl, hle9⟩
    have HLE9 := Lib.hid (Le.trans HLE5.out hle9)
    clear hle9
    go_wp2
    go_ret
    exact ⟨rfl, HLE9.out⟩
end Go.Proofs.YtainljmnhocbgaaGreatDoor

