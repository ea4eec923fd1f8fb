/- Contract: the law FnUriText (printed by gen_fnut.py). -/
import Derived.Test.YteedhaenbamiaaaGreatDoorGuard
import Derived.Test.YteedhaenbamiaaaGreatDoorIpr
set_option linter.unusedVariables false
set_option linter.unusedSimpArgs false
namespace Go.Proofs.YteedhaenbamiaaaGreatDoor
open Go.RowKit

def ut1S (w : World) (b3 : Nat) (x y : UV) (u : PU) (va vb vc da db dc : Value) (s1 s2 : Bool) : Nat → Value → World → Prop
  | 1, v, _ => v = (.pointer (some ⟨w.heap.size, 0, none⟩))
  | 2, v, _ => v = .bool true
  | 3, v, _ => v = (.pointer (some ⟨b3, 0, none⟩))
  | 4, v, _ => v = va
  | 5, v, _ => v = vb
  | 6, v, _ => v = vc
  | 7, v, _ => v = .bool s1
  | 8, v, _ => v = da
  | 9, v, _ => v = db
  | 10, v, _ => v = dc
  | 11, v, _ => v = .bool s2
  | 12, v, _ => v = .int .i64 (0 : Int)
  | 42, v, _ => v = x.val
  | 43, v, w_ => Bv w_ v (sxText u)
  | 44, v, _ => v = y.val
  | 45, v, w_ => Bv w_ v (sxText u)
  | 46, v, _ => v = .bool true
  | 47, v, _ => v = .bool true
  | 48, v, _ => v = .int .i64 (0 : Int)
  | 49, v, _ => v = .bool false
  | 50, v, _ => v = .bool false
  | 51, v, _ => v = va
  | 52, v, _ => v = da
  | 53, v, _ => v = .bool true
  | 54, v, _ => v = .bool true
  | 55, v, _ => v = vb
  | 56, v, _ => v = db
  | 57, v, _ => v = .bool true
  | 58, v, _ => v = .bool true
  | 59, v, _ => v = .bool true
  | 60, v, _ => v = vc
  | 61, v, _ => v = dc
  | 62, v, _ => v = .bool true
  | 63, v, _ => v = .bool true
  | 64, v, _ => v = .bool true
  | 65, v, _ => v = .bool s1
  | 66, v, _ => v = .bool s2
  | 67, v, _ => v = .bool true
  | 68, v, _ => v = .bool true
  | 69, v, _ => v = .bool true
  | 70, v, _ => v = .bool true
  | 71, v, _ => v = .bool true
  | 72, v, _ => v = .bool true
  | 73, v, _ => v = .bool true
  | _, _, _ => True
theorem ut1S_le (w : World) (b3 : Nat) (x y : UV) (u : PU) (va vb vc da db dc : Value) (s1 s2 : Bool) (t : Nat) (v : Value) (w1 w2 : World) (k : Le w1 w2) (h : ut1S w b3 x y u va vb vc da db dc s1 s2 t v w1) : ut1S w b3 x y u va vb vc da db dc s1 s2 t v w2 := by
  unfold ut1S at h ⊢
  split at h <;> first | exact h | exact Bv.le h k
def ut2S (w : World) (b3 : Nat) (x y : UV) (u : PU) (va vb vc da db dc : Value) (s1 s2 : Bool) : Nat → Value → World → Prop
  | 1, v, _ => v = (.pointer (some ⟨w.heap.size, 0, none⟩))
  | 2, v, _ => v = .bool true
  | 3, v, _ => v = (.pointer (some ⟨b3, 0, none⟩))
  | 4, v, _ => v = va
  | 5, v, _ => v = vb
  | 6, v, _ => v = vc
  | 7, v, _ => v = .bool s1
  | 8, v, _ => v = da
  | 9, v, _ => v = db
  | 10, v, _ => v = dc
  | 11, v, _ => v = .bool s2
  | 12, v, _ => v = .int .i64 (-2 : Int)
  | 42, v, _ => v = x.val
  | 43, v, w_ => Bv w_ v (sxText u)
  | 44, v, _ => v = y.val
  | 45, v, w_ => Bv w_ v (sxText u)
  | 46, v, _ => v = .bool true
  | 47, v, _ => v = .bool true
  | 48, v, _ => v = .int .i64 (-2 : Int)
  | 49, v, _ => v = .bool true
  | 50, v, _ => v = .bool true
  | 51, v, _ => v = undef
  | 52, v, _ => v = undef
  | 53, v, _ => v = undef
  | 54, v, _ => v = undef
  | 55, v, _ => v = undef
  | 56, v, _ => v = undef
  | 57, v, _ => v = undef
  | 58, v, _ => v = undef
  | 59, v, _ => v = undef
  | 60, v, _ => v = undef
  | 61, v, _ => v = undef
  | 62, v, _ => v = undef
  | 63, v, _ => v = undef
  | 64, v, _ => v = undef
  | 65, v, _ => v = undef
  | 66, v, _ => v = undef
  | 67, v, _ => v = undef
  | 68, v, _ => v = undef
  | 69, v, _ => v = .bool true
  | 70, v, _ => v = .bool true
  | 71, v, _ => v = .bool true
  | 72, v, _ => v = .bool true
  | 73, v, _ => v = .bool true
  | _, _, _ => True
theorem ut2S_le (w : World) (b3 : Nat) (x y : UV) (u : PU) (va vb vc da db dc : Value) (s1 s2 : Bool) (t : Nat) (v : Value) (w1 w2 : World) (k : Le w1 w2) (h : ut2S w b3 x y u va vb vc da db dc s1 s2 t v w1) : ut2S w b3 x y u va vb vc da db dc s1 s2 t v w2 := by
  unfold ut2S at h ⊢
  split at h <;> first | exact h | exact Bv.le h k
set_option maxRecDepth 8000 in
set_option maxHeartbeats 16000000 in
theorem fnUriText_c (w : World) (x : UV) (u : PU) (hx : Uw w x u) (hL : Laid w) :
    Calls Tryz.prog 4 #[x.val] w fun e w' => e = .returned (.bool true) ∧ Le w w' := by
  have HLO := Lib.hid (⟨hx.lo, hx.hi⟩ : _ ∧ _)
  have HX := Lib.hid hx
  have HL := Lib.hid hL
  have hval : Hid (x.val = .agg #[x.scheme, x.raw, .bool x.wild, .bool x.slash, x.user, x.pass, x.host, .int .i64 x.port, x.ps, x.hs]) := Lib.hid rfl
  clear hx hL
  rw [hval.out]
  go_enter Tryz.func4, Tryz.ntmps4
  have HB0 : Hid ((w.alloc (Obj.cells #[x.scheme, x.raw, .bool x.wild, .bool x.slash, x.user, x.pass, x.host, .int .i64 x.port, x.ps, x.hs] 32)).heap[w.heap.size]? = some (.cells x.row 32 (0, 0))) := Lib.hid (heap_alloc_new w _)
  have HL0 : Hid (Le w (w.alloc (Obj.cells #[x.scheme, x.raw, .bool x.wild, .bool x.slash, x.user, x.pass, x.host, .int .i64 x.port, x.ps, x.hs] 32))) := Lib.hid ((Le.refl w).alloc _)
  go_upto_region 1 with fail
  generalize w.alloc (Obj.cells #[x.scheme, x.raw, .bool x.wild, .bool x.slash, x.user, x.pass, x.host, .int .i64 x.port, x.ps, x.hs] 32) = W0 at HB0 HL0 ⊢
  generalize Value.agg #[x.scheme, x.raw, .bool x.wild, .bool x.slash, x.user, x.pass, x.host, .int .i64 x.port, x.ps, x.hs] = ag0
  go_wp2_with (refine wpList_load_row rfl 32 (.tmp 1) rfl w.heap.size rfl 32 x.row (0, 0) _ HB0.out Tryz.underlying32 rfl uri_size ?_)
  refine (zzFits2_c W0 x u (ftU u) rfl (HX.out.le HL0.out)).mono ?_
  rintro e w1 ⟨rfl, hle1⟩
  have HL1 := Lib.hid (HL0.out.trans hle1)
  have HB1 := Lib.hid (hle1.heap HB0.out)
  clear hle1
  cases hf : ftU u
  · clear hf
    go_wp2
    go_ret
    exact ⟨rfl, HL1.out⟩
  obtain ⟨_, _, _, _, _, f6, f7⟩ := ftU_parts hf
  have HQ : Hid (Uq (fun _ => True) w x u) := Lib.hid (HX.out.uq (by have := (ftKs_parts f6).1; omega) (by have := (ftKs_parts f7).1; omega))
  clear f6 f7 hf
  have HKL : Hid (u.ps.length ≤ 1099511627776 ∧ u.hs.length ≤ 1099511627776) := Lib.hid (by
    obtain ⟨_, _, _, _, _, h1, _⟩ := HQ.out.ps
    obtain ⟨_, _, _, _, _, h2, _⟩ := HQ.out.hs
    exact ⟨h1, h2⟩)
  go_wp2_with (refine wpList_load_row rfl 32 (.tmp 1) rfl w.heap.size rfl 32 x.row (0, 0) _ HB1.out Tryz.underlying32 rfl uri_size ?_)
  refine (uriOf_c _ w1 x u (HQ.out.le HL1.out) HKL.out.1 HKL.out.2).mono ?_
  rintro e w2 ⟨y, rfl, hy, hle2⟩
  have HL2 := Lib.hid (HL1.out.trans hle2)
  have HB2 := Lib.hid (hle2.heap HB1.out)
  have HY2 := Lib.hid hy
  obtain ⟨S, hS, hSs⟩ : ∃ S, y.val = .agg S ∧ S = y.row := ⟨_, rfl, rfl⟩
  have hsz2 : S.size = 10 := by rw [hSs]; rfl
  have hyone := row_one_z hSs hy
  have HS := Lib.hid hS
  have HSS := Lib.hid hSs
  have hst2 := run_storeCells_new (P := Tryz.prog) w2 36 #[(.slice none 0 0), (.slice none 0 0), .bool false, .bool false, (.slice none 0 0), (.slice none 0 0), (.slice none 0 0), .int .i64 0, (.slice none 0 0), (.slice none 0 0)] S (by rw [hsz2]; exact spu_size) (by rw [hsz2]; rfl) hyone
  rw [hS]
  clear hle2 hy hS hSs hyone
  have HL3 : Hid (Le w (w2.alloc (Obj.cells S 36))) := Lib.hid (HL2.out.alloc _)
  have HB3 := Lib.hid (((Le.refl w2).alloc (Obj.cells S 36)).heap HB2.out)
  have HC3 : Hid ((w2.alloc (Obj.cells S 36)).heap[w2.heap.size]? = some (.cells y.row 36 (0, 0))) := Lib.hid (by rw [HSS.out]; exact heap_alloc_new w2 _)
  have HY3 := Lib.hid (HY2.out.le ((Le.refl w2).alloc (Obj.cells S 36)))
  go_upto_region 4 with fail
  generalize w2.alloc (Obj.cells S 36) = w3 at HL3 HB3 HC3 HY3 ⊢
  clear hst2
  generalize w2.heap.size = b3 at HC3 ⊢
  go_wp2_with (refine wpList_load_row rfl 32 (.tmp 1) rfl w.heap.size rfl 32 x.row (0, 0) _ HB3.out Tryz.underlying32 rfl uri_size ?_)
  refine (heavyUri_c w3 x u (HQ.out.le HL3.out)).mono ?_
  rintro e w4 ⟨n, rfl, hn, hle4⟩
  have HL4 := Lib.hid (HL3.out.trans hle4)
  have HB4 := Lib.hid (hle4.heap HB3.out)
  have HC4 := Lib.hid (hle4.heap HC3.out)
  have HY4 := Lib.hid (HY3.out.le hle4)
  have HN := Lib.hid hn
  clear hle4 hn
  by_cases hn8 : 8192 < n
  · have hd : decide ((8192 : Int) < (n : Int)) = true := decide_eq_true (by omega)
    go_wp2_with fail
    refine (known_c w4 (HL.out.le HL4.out)).mono ?_
    rintro e w' ⟨rfl, hle⟩
    have HLX := Lib.hid (HL4.out.trans hle)
    clear hle
    go_wp2
    go_ret
    exact ⟨rfl, HLX.out⟩
  have HV := Lib.hid (HN.out (by omega))
  have hd : decide ((8192 : Int) < (n : Int)) = false := decide_eq_false (by omega)
  have hd2 : ¬ (8192 : Int) < (n : Int) := by omega
  have zc0 : w4.cell? ⟨b3, 0, none⟩ = some (y.scheme) := by rw [cell_cells HC4.out 0]; rfl
  have zc1 : w4.cell? ⟨b3, 1, none⟩ = some (y.raw) := by rw [cell_cells HC4.out 1]; rfl
  have zc2 : w4.cell? ⟨b3, 2, none⟩ = some (.bool y.wild) := by rw [cell_cells HC4.out 2]; rfl
  have zc3 : w4.cell? ⟨b3, 3, none⟩ = some (.bool y.slash) := by rw [cell_cells HC4.out 3]; rfl
  have zc4 : w4.cell? ⟨b3, 4, none⟩ = some (y.user) := by rw [cell_cells HC4.out 4]; rfl
  have zc5 : w4.cell? ⟨b3, 5, none⟩ = some (y.pass) := by rw [cell_cells HC4.out 5]; rfl
  have zc6 : w4.cell? ⟨b3, 6, none⟩ = some (y.host) := by rw [cell_cells HC4.out 6]; rfl
  have zc7 : w4.cell? ⟨b3, 7, none⟩ = some (.int .i64 y.port) := by rw [cell_cells HC4.out 7]; rfl
  have zc8 : w4.cell? ⟨b3, 8, none⟩ = some (y.ps) := by rw [cell_cells HC4.out 8]; rfl
  have zc9 : w4.cell? ⟨b3, 9, none⟩ = some (y.hs) := by rw [cell_cells HC4.out 9]; rfl
  go_wp2_with fail
  refine (sIsPlain_c w4 y u HY4.out (hv_sz HV.out HLO.out.1 HLO.out.2)).mono ?_
  rintro e w5 ⟨bp, rfl, hbp, hle5⟩
  have HL5 := Lib.hid (HL4.out.trans hle5)
  have HB5 := Lib.hid (hle5.heap HB4.out)
  have HC5 := Lib.hid (hle5.heap HC4.out)
  have HY5 := Lib.hid (HY4.out.le hle5)
  have HBP := Lib.hid hbp
  clear hle5 hbp zc0 zc1 zc2 zc3 zc4 zc5 zc6 zc7 zc8 zc9
  cases bp
  · go_wp2_with fail
    refine (known_c w5 (HL.out.le HL5.out)).mono ?_
    rintro e w' ⟨rfl, hle⟩
    have HLX := Lib.hid (HL5.out.trans hle)
    clear hle
    go_wp2
    go_ret
    exact ⟨rfl, HLX.out⟩
  have HPLN := Lib.hid (HBP.out rfl)
  clear HBP hd hd2
  go_wp2_with (refine wpList_load_row rfl 32 (.tmp 1) rfl w.heap.size rfl 32 x.row (0, 0) _ HB5.out Tryz.underlying32 rfl uri_size ?_)
  refine (iPartsAny_c w5 x u (HQ.out.le HL5.out) HV.out HLO.out.1 HLO.out.2 (HL.out.le HL5.out)).mono ?_
  rintro e w6 ⟨va, vb, vc, s1, rfl, ⟨ma, Aa, ca, rfl⟩, ⟨mb, Ab, cb, rfl⟩, ⟨mc, Ac, cc, rfl⟩, hle6, hit⟩
  have HL6 := Lib.hid (HL5.out.trans hle6)
  have HB6 := Lib.hid (hle6.heap HB5.out)
  have HC6 := Lib.hid (hle6.heap HC5.out)
  have HY6 := Lib.hid (HY5.out.le hle6)
  have HIT6 := Lib.hid hit
  clear hle6 hit
  go_wp2_with (refine wpList_load_row rfl 36 (.tmp 3) rfl b3 rfl 36 y.row (0, 0) _ HC6.out Tryz.underlying36 rfl spu_size ?_)
  refine (sUriParts_c w6 y u HY6.out (hv_sz HV.out HLO.out.1 HLO.out.2)).mono ?_
  rintro e w8 ⟨da, db, dc, s2, k, rfl, ⟨na, Da, ka, rfl⟩, ⟨nb, Db, kb, rfl⟩, ⟨nc, Dc, kc, rfl⟩, hle8, hk⟩
  have HL8 := Lib.hid (HL6.out.trans hle8)
  have HB8 := Lib.hid (hle8.heap HB6.out)
  have HC8 := Lib.hid (hle8.heap HC6.out)
  have HY8 := Lib.hid (HY6.out.le hle8)
  have HLE8 := Lib.hid hle8
  clear hle8
  rcases hk with rfl | ⟨rfl, htold⟩
  · go_upto_region 8 with fail
    have hm_ut2 : (Tryz.prog).follows .mixedOrders = true := by kernel_rfl
    refine G2.wp_region_grow_put (ut2S w b3 x y u (.slice Aa ma ca) (.slice Ab mb cb) (.slice Ac mc cc) (.slice Da na ka) (.slice Db nb kb) (.slice Dc nc kc) s1 s2) (fun _ _ => True) ((Le w8)) 74 [42, 43, 44, 45, 46, 47, 48, 49, 50, 51, 52, 53, 54, 55, 56, 57, 58, 59, 60, 61, 62, 63, 64, 65, 66, 67, 68, 69, 70, 71, 72, 73, 2] hm_ut2 (by kernel_rfl) rfl rfl ?hG_ut2 ?hold_ut2 ?hs_ut2 ?hend_ut2
    case hG_ut2 => exact (Le.refl w8).drew
    case hold_ut2 =>
      intro t ht
      simp only [List.mem_cons, List.mem_nil_iff, or_false, not_or] at ht
      unfold ut2S
      split <;> first | rfl | trivial | (exfalso; simp at ht)
    case hs_ut2 =>
      refine ⟨?_, ?_, ?_, ?_, ?_, ?_, ?_, ?_, ?_, ?_, ?_, ?_, ?_, ?_, ?_, ?_, ?_, ?_, ?_, ?_, ?_, ?_, ?_, ?_, ?_, ?_, ?_, ?_, ?_, ?_, ?_, ?_, ?_, trivial⟩
      · refine .free (GrowStep.det ?_) rfl
        intro a W hg hop
        have h1 : a.eval (.tmp 1) = (.pointer (some ⟨w.heap.size, 0, none⟩)) := (hop 1 (by simp [Op.operands, Call.operands]))
        have h1' : a.tmps[1]?.getD undef = (.pointer (some ⟨w.heap.size, 0, none⟩)) := by simpa [Act.eval] using h1
        refine ⟨x.val, ?_, rfl⟩
        have hs := loadAt_row (P := Tryz.prog) (hg.heap HB8.out) Tryz.underlying32 rfl uri_size
        simp only [execOp, h1, hs, Sem.run_bind, Sem.run_pure, Result.andThen, Sem.run_map]
        rfl
      · refine .free (GrowStep.call ?_ ?_ ?_ ?_) rfl
        · exact fun t v w1 w2 k h => ut2S_le w b3 x y u (.slice Aa ma ca) (.slice Ab mb cb) (.slice Ac mc cc) (.slice Da na ka) (.slice Db nb kb) (.slice Dc nc kc) s1 s2 t v w1 w2 k h
        · exact fun _ _ _ _ h => h
        · exact fun w1 w2 k h => Le.trans h k
        · intro a W hg hop
          have h42 : a.eval (.tmp 42) = x.val := (hop 42 (by simp [Op.operands, Call.operands]))
          have h42' : a.tmps[42]?.getD undef = x.val := by simpa [Act.eval] using h42
          refine ⟨18, #[x.val], ?_, (uTextAny_c W x u (HQ.out.le (Le.trans HL8.out hg)) HV.out HLO.out.1 HLO.out.2 HPLN.out (HL.out.le (Le.trans HL8.out hg))).mono ?_⟩
          · simp only [execOp, h42]
            go_simp
          · rintro e w' ⟨v', rfl, hv, hle⟩; exact ⟨_, rfl, hle, hv⟩
      · refine .free (GrowStep.det ?_) rfl
        intro a W hg hop
        have h3 : a.eval (.tmp 3) = (.pointer (some ⟨b3, 0, none⟩)) := (hop 3 (by simp [Op.operands, Call.operands]))
        have h3' : a.tmps[3]?.getD undef = (.pointer (some ⟨b3, 0, none⟩)) := by simpa [Act.eval] using h3
        refine ⟨y.val, ?_, rfl⟩
        have hs := loadAt_row (P := Tryz.prog) (hg.heap HC8.out) Tryz.underlying36 rfl spu_size
        simp only [execOp, h3, hs, Sem.run_bind, Sem.run_pure, Result.andThen, Sem.run_map]
        rfl
      · refine .free (GrowStep.call ?_ ?_ ?_ ?_) rfl
        · exact fun t v w1 w2 k h => ut2S_le w b3 x y u (.slice Aa ma ca) (.slice Ab mb cb) (.slice Ac mc cc) (.slice Da na ka) (.slice Db nb kb) (.slice Dc nc kc) s1 s2 t v w1 w2 k h
        · exact fun _ _ _ _ h => h
        · exact fun w1 w2 k h => Le.trans h k
        · intro a W hg hop
          have h44 : a.eval (.tmp 44) = y.val := (hop 44 (by simp [Op.operands, Call.operands]))
          have h44' : a.tmps[44]?.getD undef = y.val := by simpa [Act.eval] using h44
          refine ⟨19, #[y.val], ?_, (sUriText_c W y u (HY8.out.le hg) (hv_sz HV.out HLO.out.1 HLO.out.2)).mono ?_⟩
          · simp only [execOp, h44]
            go_simp
          · rintro e w' ⟨v', rfl, hv, hle⟩; exact ⟨_, rfl, hle, hv⟩
      · refine .free (GrowStep.call ?_ ?_ ?_ ?_) rfl
        · exact fun t v w1 w2 k h => ut2S_le w b3 x y u (.slice Aa ma ca) (.slice Ab mb cb) (.slice Ac mc cc) (.slice Da na ka) (.slice Db nb kb) (.slice Dc nc kc) s1 s2 t v w1 w2 k h
        · exact fun _ _ _ _ h => h
        · exact fun w1 w2 k h => Le.trans h k
        · intro a W hg hop
          have h43 : Bv W (a.eval (.tmp 43)) (sxText u) := (hop 43 (by simp [Op.operands, Call.operands]))
          have h45 : Bv W (a.eval (.tmp 45)) (sxText u) := (hop 45 (by simp [Op.operands, Call.operands]))
          refine ⟨11, #[a.eval (.tmp 43), a.eval (.tmp 45)], ?_, (equal_l W _ _ _ _ true (decide_eq_true rfl) h43 h45).mono ?_⟩
          · simp only [execOp]
            go_simp
          · rintro e w' ⟨rfl, hle⟩; exact ⟨_, rfl, hle, rfl⟩
      · refine .free (GrowStep.det ?_) rfl
        intro a W hg hop
        have h46 : a.eval (.tmp 46) = .bool true := (hop 46 (by simp [Op.operands, Call.operands]))
        have h46' : a.tmps[46]?.getD undef = .bool true := by simpa [Act.eval] using h46
        refine ⟨.bool true, ?_, rfl⟩
        simp only [execOp, h46]
        go_simp
      · refine .inl ⟨GrowStep.det ?_, .inr ⟨5, true, _, 47, rfl, rfl, rfl, by kernel_rfl, ?_⟩⟩
        · intro a W hg hop
          have h12 : a.eval (.tmp 12) = .int .i64 (-2 : Int) := (hop 12 (by simp [Op.operands, Call.operands]))
          have h12' : a.tmps[12]?.getD undef = .int .i64 (-2 : Int) := by simpa [Act.eval] using h12
          refine ⟨.int .i64 (-2 : Int), ?_, rfl⟩
          simp only [execOp, h12]
          go_simp
        · intro a W _ ha
          obtain rfl : a = .bool true := ha
          rfl
      · refine .inl ⟨GrowStep.det ?_, .inr ⟨5, true, _, 47, rfl, rfl, rfl, by kernel_rfl, ?_⟩⟩
        · intro a W hg hop
          have h48 : a.eval (.tmp 48) = .int .i64 (-2 : Int) := (hop 48 (by simp [Op.operands, Call.operands]))
          have h48' : a.tmps[48]?.getD undef = .int .i64 (-2 : Int) := by simpa [Act.eval] using h48
          refine ⟨.bool true, ?_, rfl⟩
          simp only [execOp, h48]
          go_simp
        · intro a W _ ha
          obtain rfl : a = .bool true := ha
          rfl
      · refine .inl ⟨GrowStep.det ?_, .inr ⟨5, true, _, 47, rfl, rfl, rfl, by kernel_rfl, ?_⟩⟩
        · intro a W hg hop
          have h49 : a.eval (.tmp 49) = .bool true := (hop 49 (by simp [Op.operands, Call.operands]))
          have h49' : a.tmps[49]?.getD undef = .bool true := by simpa [Act.eval] using h49
          refine ⟨.bool true, ?_, rfl⟩
          simp only [execOp, h49]
          go_simp
        · intro a W _ ha
          obtain rfl : a = .bool true := ha
          rfl
      · refine .inr ⟨⟨8, false, _, 50, rfl, rfl, rfl, by kernel_rfl, ?_⟩, fun _ _ => rfl⟩
        intro a W _ ha
        obtain rfl : a = .bool true := ha
        rfl
      · refine .inr ⟨⟨8, false, _, 50, rfl, rfl, rfl, by kernel_rfl, ?_⟩, fun _ _ => rfl⟩
        intro a W _ ha
        obtain rfl : a = .bool true := ha
        rfl
      · refine .inr ⟨⟨8, false, _, 50, rfl, rfl, rfl, by kernel_rfl, ?_⟩, fun _ _ => rfl⟩
        intro a W _ ha
        obtain rfl : a = .bool true := ha
        rfl
      · refine .inr ⟨⟨8, false, _, 50, rfl, rfl, rfl, by kernel_rfl, ?_⟩, fun _ _ => rfl⟩
        intro a W _ ha
        obtain rfl : a = .bool true := ha
        rfl
      · refine .inr ⟨⟨12, true, _, 54, rfl, rfl, rfl, by kernel_rfl, ?_⟩, fun _ _ => rfl⟩
        intro a W _ ha
        obtain rfl : a = undef := ha
        rfl
      · refine .inr ⟨⟨12, true, _, 54, rfl, rfl, rfl, by kernel_rfl, ?_⟩, fun _ _ => rfl⟩
        intro a W _ ha
        obtain rfl : a = undef := ha
        rfl
      · refine .inr ⟨⟨12, true, _, 54, rfl, rfl, rfl, by kernel_rfl, ?_⟩, fun _ _ => rfl⟩
        intro a W _ ha
        obtain rfl : a = undef := ha
        rfl
      · refine .inr ⟨⟨8, false, _, 50, rfl, rfl, rfl, by kernel_rfl, ?_⟩, fun _ _ => rfl⟩
        intro a W _ ha
        obtain rfl : a = .bool true := ha
        rfl
      · refine .inr ⟨⟨8, false, _, 50, rfl, rfl, rfl, by kernel_rfl, ?_⟩, fun _ _ => rfl⟩
        intro a W _ ha
        obtain rfl : a = .bool true := ha
        rfl
      · refine .inr ⟨⟨17, true, _, 59, rfl, rfl, rfl, by kernel_rfl, ?_⟩, fun _ _ => rfl⟩
        intro a W _ ha
        obtain rfl : a = undef := ha
        rfl
      · refine .inr ⟨⟨17, true, _, 59, rfl, rfl, rfl, by kernel_rfl, ?_⟩, fun _ _ => rfl⟩
        intro a W _ ha
        obtain rfl : a = undef := ha
        rfl
      · refine .inr ⟨⟨17, true, _, 59, rfl, rfl, rfl, by kernel_rfl, ?_⟩, fun _ _ => rfl⟩
        intro a W _ ha
        obtain rfl : a = undef := ha
        rfl
      · refine .inr ⟨⟨8, false, _, 50, rfl, rfl, rfl, by kernel_rfl, ?_⟩, fun _ _ => rfl⟩
        intro a W _ ha
        obtain rfl : a = .bool true := ha
        rfl
      · refine .inr ⟨⟨8, false, _, 50, rfl, rfl, rfl, by kernel_rfl, ?_⟩, fun _ _ => rfl⟩
        intro a W _ ha
        obtain rfl : a = .bool true := ha
        rfl
      · refine .inr ⟨⟨22, true, _, 64, rfl, rfl, rfl, by kernel_rfl, ?_⟩, fun _ _ => rfl⟩
        intro a W _ ha
        obtain rfl : a = undef := ha
        rfl
      · refine .inr ⟨⟨22, true, _, 64, rfl, rfl, rfl, by kernel_rfl, ?_⟩, fun _ _ => rfl⟩
        intro a W _ ha
        obtain rfl : a = undef := ha
        rfl
      · refine .inr ⟨⟨22, true, _, 64, rfl, rfl, rfl, by kernel_rfl, ?_⟩, fun _ _ => rfl⟩
        intro a W _ ha
        obtain rfl : a = undef := ha
        rfl
      · refine .inr ⟨⟨8, false, _, 50, rfl, rfl, rfl, by kernel_rfl, ?_⟩, fun _ _ => rfl⟩
        intro a W _ ha
        obtain rfl : a = .bool true := ha
        rfl
      · refine .inl ⟨GrowStep.det ?_, .inr ⟨5, true, _, 47, rfl, rfl, rfl, by kernel_rfl, ?_⟩⟩
        · intro a W hg hop
          have h50 : a.eval (.tmp 50) = .bool true := (hop 50 (by simp [Op.operands, Call.operands]))
          have h50' : a.tmps[50]?.getD undef = .bool true := by simpa [Act.eval] using h50
          have h68 : a.eval (.tmp 68) = undef := (hop 68 (by simp [Op.operands, Call.operands]))
          have h68' : a.tmps[68]?.getD undef = undef := by simpa [Act.eval] using h68
          refine ⟨.bool true, ?_, rfl⟩
          simp only [execOp, h50, h68]
          go_simp
        · intro a W _ ha
          obtain rfl : a = .bool true := ha
          rfl
      · refine .free (GrowStep.det ?_) rfl
        intro a W hg hop
        have h47 : a.eval (.tmp 47) = .bool true := (hop 47 (by simp [Op.operands, Call.operands]))
        have h47' : a.tmps[47]?.getD undef = .bool true := by simpa [Act.eval] using h47
        have h69 : a.eval (.tmp 69) = .bool true := (hop 69 (by simp [Op.operands, Call.operands]))
        have h69' : a.tmps[69]?.getD undef = .bool true := by simpa [Act.eval] using h69
        refine ⟨.bool true, ?_, rfl⟩
        simp only [execOp, h47, h69]
        go_simp
      · refine .free (GrowStep.det ?_) rfl
        intro a W hg hop
        have h70 : a.eval (.tmp 70) = .bool true := (hop 70 (by simp [Op.operands, Call.operands]))
        have h70' : a.tmps[70]?.getD undef = .bool true := by simpa [Act.eval] using h70
        refine ⟨.bool true, ?_, rfl⟩
        simp only [execOp, h70]
        go_simp
      · refine .inl ⟨GrowStep.call ?_ ?_ ?_ ?_, .inr ⟨29, true, _, 71, rfl, rfl, rfl, by kernel_rfl, ?_⟩⟩
        · exact fun t v w1 w2 k h => ut2S_le w b3 x y u (.slice Aa ma ca) (.slice Ab mb cb) (.slice Ac mc cc) (.slice Da na ka) (.slice Db nb kb) (.slice Dc nc kc) s1 s2 t v w1 w2 k h
        · exact fun _ _ _ _ h => h
        · exact fun w1 w2 k h => Le.trans h k
        · intro a W hg hop
          refine ⟨8, #[], ?_, (known_c W (HL.out.le (Le.trans HL8.out hg))).mono ?_⟩
          · simp only [execOp]
            go_simp
          · rintro e w' ⟨rfl, hle⟩; exact ⟨_, rfl, hle, rfl⟩
        · intro a W _ ha
          obtain rfl : a = .bool true := ha
          rfl
      · refine .free (GrowStep.det ?_) rfl
        intro a W hg hop
        have h71 : a.eval (.tmp 71) = .bool true := (hop 71 (by simp [Op.operands, Call.operands]))
        have h71' : a.tmps[71]?.getD undef = .bool true := by simpa [Act.eval] using h71
        have h72 : a.eval (.tmp 72) = .bool true := (hop 72 (by simp [Op.operands, Call.operands]))
        have h72' : a.tmps[72]?.getD undef = .bool true := by simpa [Act.eval] using h72
        refine ⟨.bool true, ?_, rfl⟩
        simp only [execOp, h71, h72]
        go_simp
      · refine .free (GrowStep.det ?_) rfl
        intro a W hg hop
        have h73 : a.eval (.tmp 73) = .bool true := (hop 73 (by simp [Op.operands, Call.operands]))
        have h73' : a.tmps[73]?.getD undef = .bool true := by simpa [Act.eval] using h73
        refine ⟨.bool true, ?_, rfl⟩
        simp only [execOp, h73]
        go_simp
    case hend_ut2 =>
      intro s_ wz hg hS hZ
      have s2_ : s_ 2 = .bool true := hS 2 (by decide)
      have HLZ := Lib.hid (show Le w8 wz from hg)
      clear hS hZ hg
      simp only [putsL, Act.put, List.setIfInBounds_toArray, List.set_cons_zero, List.set_cons_succ]
      rw [s2_]
      go_wp2
      go_ret
      exact ⟨rfl, HL8.out.trans HLZ.out⟩
  · have HTOLD := Lib.hid htold
    have HK : Hid (SipK u) := Lib.hid (by
      rcases pln_cases HPLN.out with ⟨_, h, _⟩ | h
      · exact absurd htold.raw h
      · exact h)
    have HIT : Hid (IPTold u w8 (.slice Aa ma ca) (.slice Ab mb cb) (.slice Ac mc cc) s1) := Lib.hid (by
      have h := HIT6.out htold.raw
      exact ⟨h.a.le HLE8.out, h.b.le HLE8.out, h.c.le HLE8.out, h.s⟩)
    clear htold
    go_upto_region 8 with fail
    have hm_ut1 : (Tryz.prog).follows .mixedOrders = true := by kernel_rfl
    refine G2.wp_region_grow_put (ut1S w b3 x y u (.slice Aa ma ca) (.slice Ab mb cb) (.slice Ac mc cc) (.slice Da na ka) (.slice Db nb kb) (.slice Dc nc kc) s1 s2) (fun _ _ => True) ((Le w8)) 74 [42, 43, 44, 45, 46, 47, 48, 49, 50, 51, 52, 53, 54, 55, 56, 57, 58, 59, 60, 61, 62, 63, 64, 65, 66, 67, 68, 69, 70, 71, 72, 73, 2] hm_ut1 (by kernel_rfl) rfl rfl ?hG_ut1 ?hold_ut1 ?hs_ut1 ?hend_ut1
    case hG_ut1 => exact (Le.refl w8).drew
    case hold_ut1 =>
      intro t ht
      simp only [List.mem_cons, List.mem_nil_iff, or_false, not_or] at ht
      unfold ut1S
      split <;> first | rfl | trivial | (exfalso; simp at ht)
    case hs_ut1 =>
      refine ⟨?_, ?_, ?_, ?_, ?_, ?_, ?_, ?_, ?_, ?_, ?_, ?_, ?_, ?_, ?_, ?_, ?_, ?_, ?_, ?_, ?_, ?_, ?_, ?_, ?_, ?_, ?_, ?_, ?_, ?_, ?_, ?_, ?_, trivial⟩
      · refine .free (GrowStep.det ?_) rfl
        intro a W hg hop
        have h1 : a.eval (.tmp 1) = (.pointer (some ⟨w.heap.size, 0, none⟩)) := (hop 1 (by simp [Op.operands, Call.operands]))
        have h1' : a.tmps[1]?.getD undef = (.pointer (some ⟨w.heap.size, 0, none⟩)) := by simpa [Act.eval] using h1
        refine ⟨x.val, ?_, rfl⟩
        have hs := loadAt_row (P := Tryz.prog) (hg.heap HB8.out) Tryz.underlying32 rfl uri_size
        simp only [execOp, h1, hs, Sem.run_bind, Sem.run_pure, Result.andThen, Sem.run_map]
        rfl
      · refine .free (GrowStep.call ?_ ?_ ?_ ?_) rfl
        · exact fun t v w1 w2 k h => ut1S_le w b3 x y u (.slice Aa ma ca) (.slice Ab mb cb) (.slice Ac mc cc) (.slice Da na ka) (.slice Db nb kb) (.slice Dc nc kc) s1 s2 t v w1 w2 k h
        · exact fun _ _ _ _ h => h
        · exact fun w1 w2 k h => Le.trans h k
        · intro a W hg hop
          have h42 : a.eval (.tmp 42) = x.val := (hop 42 (by simp [Op.operands, Call.operands]))
          have h42' : a.tmps[42]?.getD undef = x.val := by simpa [Act.eval] using h42
          refine ⟨18, #[x.val], ?_, (uTextAny_c W x u (HQ.out.le (Le.trans HL8.out hg)) HV.out HLO.out.1 HLO.out.2 HPLN.out (HL.out.le (Le.trans HL8.out hg))).mono ?_⟩
          · simp only [execOp, h42]
            go_simp
          · rintro e w' ⟨v', rfl, hv, hle⟩; exact ⟨_, rfl, hle, hv⟩
      · refine .free (GrowStep.det ?_) rfl
        intro a W hg hop
        have h3 : a.eval (.tmp 3) = (.pointer (some ⟨b3, 0, none⟩)) := (hop 3 (by simp [Op.operands, Call.operands]))
        have h3' : a.tmps[3]?.getD undef = (.pointer (some ⟨b3, 0, none⟩)) := by simpa [Act.eval] using h3
        refine ⟨y.val, ?_, rfl⟩
        have hs := loadAt_row (P := Tryz.prog) (hg.heap HC8.out) Tryz.underlying36 rfl spu_size
        simp only [execOp, h3, hs, Sem.run_bind, Sem.run_pure, Result.andThen, Sem.run_map]
        rfl
      · refine .free (GrowStep.call ?_ ?_ ?_ ?_) rfl
        · exact fun t v w1 w2 k h => ut1S_le w b3 x y u (.slice Aa ma ca) (.slice Ab mb cb) (.slice Ac mc cc) (.slice Da na ka) (.slice Db nb kb) (.slice Dc nc kc) s1 s2 t v w1 w2 k h
        · exact fun _ _ _ _ h => h
        · exact fun w1 w2 k h => Le.trans h k
        · intro a W hg hop
          have h44 : a.eval (.tmp 44) = y.val := (hop 44 (by simp [Op.operands, Call.operands]))
          have h44' : a.tmps[44]?.getD undef = y.val := by simpa [Act.eval] using h44
          refine ⟨19, #[y.val], ?_, (sUriText_c W y u (HY8.out.le hg) (hv_sz HV.out HLO.out.1 HLO.out.2)).mono ?_⟩
          · simp only [execOp, h44]
            go_simp
          · rintro e w' ⟨v', rfl, hv, hle⟩; exact ⟨_, rfl, hle, hv⟩
      · refine .free (GrowStep.call ?_ ?_ ?_ ?_) rfl
        · exact fun t v w1 w2 k h => ut1S_le w b3 x y u (.slice Aa ma ca) (.slice Ab mb cb) (.slice Ac mc cc) (.slice Da na ka) (.slice Db nb kb) (.slice Dc nc kc) s1 s2 t v w1 w2 k h
        · exact fun _ _ _ _ h => h
        · exact fun w1 w2 k h => Le.trans h k
        · intro a W hg hop
          have h43 : Bv W (a.eval (.tmp 43)) (sxText u) := (hop 43 (by simp [Op.operands, Call.operands]))
          have h45 : Bv W (a.eval (.tmp 45)) (sxText u) := (hop 45 (by simp [Op.operands, Call.operands]))
          refine ⟨11, #[a.eval (.tmp 43), a.eval (.tmp 45)], ?_, (equal_l W _ _ _ _ true (decide_eq_true rfl) h43 h45).mono ?_⟩
          · simp only [execOp]
            go_simp
          · rintro e w' ⟨rfl, hle⟩; exact ⟨_, rfl, hle, rfl⟩
      · refine .free (GrowStep.det ?_) rfl
        intro a W hg hop
        have h46 : a.eval (.tmp 46) = .bool true := (hop 46 (by simp [Op.operands, Call.operands]))
        have h46' : a.tmps[46]?.getD undef = .bool true := by simpa [Act.eval] using h46
        refine ⟨.bool true, ?_, rfl⟩
        simp only [execOp, h46]
        go_simp
      · refine .inl ⟨GrowStep.det ?_, .inr ⟨5, true, _, 47, rfl, rfl, rfl, by kernel_rfl, ?_⟩⟩
        · intro a W hg hop
          have h12 : a.eval (.tmp 12) = .int .i64 (0 : Int) := (hop 12 (by simp [Op.operands, Call.operands]))
          have h12' : a.tmps[12]?.getD undef = .int .i64 (0 : Int) := by simpa [Act.eval] using h12
          refine ⟨.int .i64 (0 : Int), ?_, rfl⟩
          simp only [execOp, h12]
          go_simp
        · intro a W _ ha
          obtain rfl : a = .bool true := ha
          rfl
      · refine .inl ⟨GrowStep.det ?_, .inr ⟨5, true, _, 47, rfl, rfl, rfl, by kernel_rfl, ?_⟩⟩
        · intro a W hg hop
          have h48 : a.eval (.tmp 48) = .int .i64 (0 : Int) := (hop 48 (by simp [Op.operands, Call.operands]))
          have h48' : a.tmps[48]?.getD undef = .int .i64 (0 : Int) := by simpa [Act.eval] using h48
          refine ⟨.bool false, ?_, rfl⟩
          simp only [execOp, h48]
          go_simp
        · intro a W _ ha
          obtain rfl : a = .bool true := ha
          rfl
      · refine .inl ⟨GrowStep.det ?_, .inr ⟨5, true, _, 47, rfl, rfl, rfl, by kernel_rfl, ?_⟩⟩
        · intro a W hg hop
          have h49 : a.eval (.tmp 49) = .bool false := (hop 49 (by simp [Op.operands, Call.operands]))
          have h49' : a.tmps[49]?.getD undef = .bool false := by simpa [Act.eval] using h49
          refine ⟨.bool false, ?_, rfl⟩
          simp only [execOp, h49]
          go_simp
        · intro a W _ ha
          obtain rfl : a = .bool true := ha
          rfl
      · refine .inl ⟨GrowStep.det ?_, .inr ⟨8, false, _, 50, rfl, rfl, rfl, by kernel_rfl, ?_⟩⟩
        · intro a W hg hop
          have h4 : a.eval (.tmp 4) = (.slice Aa ma ca) := (hop 4 (by simp [Op.operands, Call.operands]))
          have h4' : a.tmps[4]?.getD undef = (.slice Aa ma ca) := by simpa [Act.eval] using h4
          refine ⟨(.slice Aa ma ca), ?_, rfl⟩
          simp only [execOp, h4]
          go_simp
        · intro a W _ ha
          obtain rfl : a = .bool false := ha
          rfl
      · refine .inl ⟨GrowStep.det ?_, .inr ⟨8, false, _, 50, rfl, rfl, rfl, by kernel_rfl, ?_⟩⟩
        · intro a W hg hop
          have h8 : a.eval (.tmp 8) = (.slice Da na ka) := (hop 8 (by simp [Op.operands, Call.operands]))
          have h8' : a.tmps[8]?.getD undef = (.slice Da na ka) := by simpa [Act.eval] using h8
          refine ⟨(.slice Da na ka), ?_, rfl⟩
          simp only [execOp, h8]
          go_simp
        · intro a W _ ha
          obtain rfl : a = .bool false := ha
          rfl
      · refine .inl ⟨GrowStep.call ?_ ?_ ?_ ?_, .inr ⟨8, false, _, 50, rfl, rfl, rfl, by kernel_rfl, ?_⟩⟩
        · exact fun t v w1 w2 k h => ut1S_le w b3 x y u (.slice Aa ma ca) (.slice Ab mb cb) (.slice Ac mc cc) (.slice Da na ka) (.slice Db nb kb) (.slice Dc nc kc) s1 s2 t v w1 w2 k h
        · exact fun _ _ _ _ h => h
        · exact fun w1 w2 k h => Le.trans h k
        · intro a W hg hop
          have h51 : a.eval (.tmp 51) = (.slice Aa ma ca) := (hop 51 (by simp [Op.operands, Call.operands]))
          have h51' : a.tmps[51]?.getD undef = (.slice Aa ma ca) := by simpa [Act.eval] using h51
          have h52 : a.eval (.tmp 52) = (.slice Da na ka) := (hop 52 (by simp [Op.operands, Call.operands]))
          have h52' : a.tmps[52]?.getD undef = (.slice Da na ka) := by simpa [Act.eval] using h52
          refine ⟨11, #[(.slice Aa ma ca), (.slice Da na ka)], ?_, (equal_l W _ _ _ _ true (decide_eq_true (pAd HK.out HTOLD.out.user)) (HIT.out.a.le hg) (HTOLD.out.a.le hg)).mono ?_⟩
          · simp only [execOp, h51, h52]
            go_simp
          · rintro e w' ⟨rfl, hle⟩; exact ⟨_, rfl, hle, rfl⟩
        · intro a W _ ha
          obtain rfl : a = .bool false := ha
          rfl
      · refine .inl ⟨GrowStep.det ?_, .inr ⟨8, false, _, 50, rfl, rfl, rfl, by kernel_rfl, ?_⟩⟩
        · intro a W hg hop
          have h53 : a.eval (.tmp 53) = .bool true := (hop 53 (by simp [Op.operands, Call.operands]))
          have h53' : a.tmps[53]?.getD undef = .bool true := by simpa [Act.eval] using h53
          refine ⟨.bool true, ?_, rfl⟩
          simp only [execOp, h53]
          go_simp
        · intro a W _ ha
          obtain rfl : a = .bool false := ha
          rfl
      · refine .inl ⟨GrowStep.det ?_, .inr ⟨12, true, _, 54, rfl, rfl, rfl, by kernel_rfl, ?_⟩⟩
        · intro a W hg hop
          have h5 : a.eval (.tmp 5) = (.slice Ab mb cb) := (hop 5 (by simp [Op.operands, Call.operands]))
          have h5' : a.tmps[5]?.getD undef = (.slice Ab mb cb) := by simpa [Act.eval] using h5
          refine ⟨(.slice Ab mb cb), ?_, rfl⟩
          simp only [execOp, h5]
          go_simp
        · intro a W _ ha
          obtain rfl : a = .bool true := ha
          rfl
      · refine .inl ⟨GrowStep.det ?_, .inr ⟨12, true, _, 54, rfl, rfl, rfl, by kernel_rfl, ?_⟩⟩
        · intro a W hg hop
          have h9 : a.eval (.tmp 9) = (.slice Db nb kb) := (hop 9 (by simp [Op.operands, Call.operands]))
          have h9' : a.tmps[9]?.getD undef = (.slice Db nb kb) := by simpa [Act.eval] using h9
          refine ⟨(.slice Db nb kb), ?_, rfl⟩
          simp only [execOp, h9]
          go_simp
        · intro a W _ ha
          obtain rfl : a = .bool true := ha
          rfl
      · refine .inl ⟨GrowStep.call ?_ ?_ ?_ ?_, .inr ⟨12, true, _, 54, rfl, rfl, rfl, by kernel_rfl, ?_⟩⟩
        · exact fun t v w1 w2 k h => ut1S_le w b3 x y u (.slice Aa ma ca) (.slice Ab mb cb) (.slice Ac mc cc) (.slice Da na ka) (.slice Db nb kb) (.slice Dc nc kc) s1 s2 t v w1 w2 k h
        · exact fun _ _ _ _ h => h
        · exact fun w1 w2 k h => Le.trans h k
        · intro a W hg hop
          have h55 : a.eval (.tmp 55) = (.slice Ab mb cb) := (hop 55 (by simp [Op.operands, Call.operands]))
          have h55' : a.tmps[55]?.getD undef = (.slice Ab mb cb) := by simpa [Act.eval] using h55
          have h56 : a.eval (.tmp 56) = (.slice Db nb kb) := (hop 56 (by simp [Op.operands, Call.operands]))
          have h56' : a.tmps[56]?.getD undef = (.slice Db nb kb) := by simpa [Act.eval] using h56
          refine ⟨11, #[(.slice Ab mb cb), (.slice Db nb kb)], ?_, (equal_l W _ _ _ _ true (decide_eq_true (pEp u)) (HIT.out.b.le hg) (HTOLD.out.b.le hg)).mono ?_⟩
          · simp only [execOp, h55, h56]
            go_simp
          · rintro e w' ⟨rfl, hle⟩; exact ⟨_, rfl, hle, rfl⟩
        · intro a W _ ha
          obtain rfl : a = .bool true := ha
          rfl
      · refine .inl ⟨GrowStep.det ?_, .inr ⟨8, false, _, 50, rfl, rfl, rfl, by kernel_rfl, ?_⟩⟩
        · intro a W hg hop
          have h54 : a.eval (.tmp 54) = .bool true := (hop 54 (by simp [Op.operands, Call.operands]))
          have h54' : a.tmps[54]?.getD undef = .bool true := by simpa [Act.eval] using h54
          have h57 : a.eval (.tmp 57) = .bool true := (hop 57 (by simp [Op.operands, Call.operands]))
          have h57' : a.tmps[57]?.getD undef = .bool true := by simpa [Act.eval] using h57
          refine ⟨.bool true, ?_, rfl⟩
          simp only [execOp, h54, h57]
          go_simp
        · intro a W _ ha
          obtain rfl : a = .bool false := ha
          rfl
      · refine .inl ⟨GrowStep.det ?_, .inr ⟨8, false, _, 50, rfl, rfl, rfl, by kernel_rfl, ?_⟩⟩
        · intro a W hg hop
          have h58 : a.eval (.tmp 58) = .bool true := (hop 58 (by simp [Op.operands, Call.operands]))
          have h58' : a.tmps[58]?.getD undef = .bool true := by simpa [Act.eval] using h58
          refine ⟨.bool true, ?_, rfl⟩
          simp only [execOp, h58]
          go_simp
        · intro a W _ ha
          obtain rfl : a = .bool false := ha
          rfl
      · refine .inl ⟨GrowStep.det ?_, .inr ⟨17, true, _, 59, rfl, rfl, rfl, by kernel_rfl, ?_⟩⟩
        · intro a W hg hop
          have h6 : a.eval (.tmp 6) = (.slice Ac mc cc) := (hop 6 (by simp [Op.operands, Call.operands]))
          have h6' : a.tmps[6]?.getD undef = (.slice Ac mc cc) := by simpa [Act.eval] using h6
          refine ⟨(.slice Ac mc cc), ?_, rfl⟩
          simp only [execOp, h6]
          go_simp
        · intro a W _ ha
          obtain rfl : a = .bool true := ha
          rfl
      · refine .inl ⟨GrowStep.det ?_, .inr ⟨17, true, _, 59, rfl, rfl, rfl, by kernel_rfl, ?_⟩⟩
        · intro a W hg hop
          have h10 : a.eval (.tmp 10) = (.slice Dc nc kc) := (hop 10 (by simp [Op.operands, Call.operands]))
          have h10' : a.tmps[10]?.getD undef = (.slice Dc nc kc) := by simpa [Act.eval] using h10
          refine ⟨(.slice Dc nc kc), ?_, rfl⟩
          simp only [execOp, h10]
          go_simp
        · intro a W _ ha
          obtain rfl : a = .bool true := ha
          rfl
      · refine .inl ⟨GrowStep.call ?_ ?_ ?_ ?_, .inr ⟨17, true, _, 59, rfl, rfl, rfl, by kernel_rfl, ?_⟩⟩
        · exact fun t v w1 w2 k h => ut1S_le w b3 x y u (.slice Aa ma ca) (.slice Ab mb cb) (.slice Ac mc cc) (.slice Da na ka) (.slice Db nb kb) (.slice Dc nc kc) s1 s2 t v w1 w2 k h
        · exact fun _ _ _ _ h => h
        · exact fun w1 w2 k h => Le.trans h k
        · intro a W hg hop
          have h60 : a.eval (.tmp 60) = (.slice Ac mc cc) := (hop 60 (by simp [Op.operands, Call.operands]))
          have h60' : a.tmps[60]?.getD undef = (.slice Ac mc cc) := by simpa [Act.eval] using h60
          have h61 : a.eval (.tmp 61) = (.slice Dc nc kc) := (hop 61 (by simp [Op.operands, Call.operands]))
          have h61' : a.tmps[61]?.getD undef = (.slice Dc nc kc) := by simpa [Act.eval] using h61
          refine ⟨11, #[(.slice Ac mc cc), (.slice Dc nc kc)], ?_, (equal_l W _ _ _ _ true (decide_eq_true (pHp HK.out)) (HIT.out.c.le hg) (HTOLD.out.c.le hg)).mono ?_⟩
          · simp only [execOp, h60, h61]
            go_simp
          · rintro e w' ⟨rfl, hle⟩; exact ⟨_, rfl, hle, rfl⟩
        · intro a W _ ha
          obtain rfl : a = .bool true := ha
          rfl
      · refine .inl ⟨GrowStep.det ?_, .inr ⟨8, false, _, 50, rfl, rfl, rfl, by kernel_rfl, ?_⟩⟩
        · intro a W hg hop
          have h59 : a.eval (.tmp 59) = .bool true := (hop 59 (by simp [Op.operands, Call.operands]))
          have h59' : a.tmps[59]?.getD undef = .bool true := by simpa [Act.eval] using h59
          have h62 : a.eval (.tmp 62) = .bool true := (hop 62 (by simp [Op.operands, Call.operands]))
          have h62' : a.tmps[62]?.getD undef = .bool true := by simpa [Act.eval] using h62
          refine ⟨.bool true, ?_, rfl⟩
          simp only [execOp, h59, h62]
          go_simp
        · intro a W _ ha
          obtain rfl : a = .bool false := ha
          rfl
      · refine .inl ⟨GrowStep.det ?_, .inr ⟨8, false, _, 50, rfl, rfl, rfl, by kernel_rfl, ?_⟩⟩
        · intro a W hg hop
          have h63 : a.eval (.tmp 63) = .bool true := (hop 63 (by simp [Op.operands, Call.operands]))
          have h63' : a.tmps[63]?.getD undef = .bool true := by simpa [Act.eval] using h63
          refine ⟨.bool true, ?_, rfl⟩
          simp only [execOp, h63]
          go_simp
        · intro a W _ ha
          obtain rfl : a = .bool false := ha
          rfl
      · refine .inl ⟨GrowStep.det ?_, .inr ⟨22, true, _, 64, rfl, rfl, rfl, by kernel_rfl, ?_⟩⟩
        · intro a W hg hop
          have h7 : a.eval (.tmp 7) = .bool s1 := (hop 7 (by simp [Op.operands, Call.operands]))
          have h7' : a.tmps[7]?.getD undef = .bool s1 := by simpa [Act.eval] using h7
          refine ⟨.bool s1, ?_, rfl⟩
          simp only [execOp, h7]
          go_simp
        · intro a W _ ha
          obtain rfl : a = .bool true := ha
          rfl
      · refine .inl ⟨GrowStep.det ?_, .inr ⟨22, true, _, 64, rfl, rfl, rfl, by kernel_rfl, ?_⟩⟩
        · intro a W hg hop
          have h11 : a.eval (.tmp 11) = .bool s2 := (hop 11 (by simp [Op.operands, Call.operands]))
          have h11' : a.tmps[11]?.getD undef = .bool s2 := by simpa [Act.eval] using h11
          refine ⟨.bool s2, ?_, rfl⟩
          simp only [execOp, h11]
          go_simp
        · intro a W _ ha
          obtain rfl : a = .bool true := ha
          rfl
      · refine .inl ⟨GrowStep.det ?_, .inr ⟨22, true, _, 64, rfl, rfl, rfl, by kernel_rfl, ?_⟩⟩
        · intro a W hg hop
          have h65 : a.eval (.tmp 65) = .bool s1 := (hop 65 (by simp [Op.operands, Call.operands]))
          have h65' : a.tmps[65]?.getD undef = .bool s1 := by simpa [Act.eval] using h65
          have h66 : a.eval (.tmp 66) = .bool s2 := (hop 66 (by simp [Op.operands, Call.operands]))
          have h66' : a.tmps[66]?.getD undef = .bool s2 := by simpa [Act.eval] using h66
          refine ⟨.bool true, ?_, rfl⟩
          have hss : s1 = s2 := HIT.out.s.trans HTOLD.out.s.symm
          simp only [execOp, h65, h66]
          subst hss
          cases s1 <;> go_simp
        · intro a W _ ha
          obtain rfl : a = .bool true := ha
          rfl
      · refine .inl ⟨GrowStep.det ?_, .inr ⟨8, false, _, 50, rfl, rfl, rfl, by kernel_rfl, ?_⟩⟩
        · intro a W hg hop
          have h64 : a.eval (.tmp 64) = .bool true := (hop 64 (by simp [Op.operands, Call.operands]))
          have h64' : a.tmps[64]?.getD undef = .bool true := by simpa [Act.eval] using h64
          have h67 : a.eval (.tmp 67) = .bool true := (hop 67 (by simp [Op.operands, Call.operands]))
          have h67' : a.tmps[67]?.getD undef = .bool true := by simpa [Act.eval] using h67
          refine ⟨.bool true, ?_, rfl⟩
          simp only [execOp, h64, h67]
          go_simp
        · intro a W _ ha
          obtain rfl : a = .bool false := ha
          rfl
      · refine .inl ⟨GrowStep.det ?_, .inr ⟨5, true, _, 47, rfl, rfl, rfl, by kernel_rfl, ?_⟩⟩
        · intro a W hg hop
          have h50 : a.eval (.tmp 50) = .bool false := (hop 50 (by simp [Op.operands, Call.operands]))
          have h50' : a.tmps[50]?.getD undef = .bool false := by simpa [Act.eval] using h50
          have h68 : a.eval (.tmp 68) = .bool true := (hop 68 (by simp [Op.operands, Call.operands]))
          have h68' : a.tmps[68]?.getD undef = .bool true := by simpa [Act.eval] using h68
          refine ⟨.bool true, ?_, rfl⟩
          simp only [execOp, h50, h68]
          go_simp
        · intro a W _ ha
          obtain rfl : a = .bool true := ha
          rfl
      · refine .free (GrowStep.det ?_) rfl
        intro a W hg hop
        have h47 : a.eval (.tmp 47) = .bool true := (hop 47 (by simp [Op.operands, Call.operands]))
        have h47' : a.tmps[47]?.getD undef = .bool true := by simpa [Act.eval] using h47
        have h69 : a.eval (.tmp 69) = .bool true := (hop 69 (by simp [Op.operands, Call.operands]))
        have h69' : a.tmps[69]?.getD undef = .bool true := by simpa [Act.eval] using h69
        refine ⟨.bool true, ?_, rfl⟩
        simp only [execOp, h47, h69]
        go_simp
      · refine .free (GrowStep.det ?_) rfl
        intro a W hg hop
        have h70 : a.eval (.tmp 70) = .bool true := (hop 70 (by simp [Op.operands, Call.operands]))
        have h70' : a.tmps[70]?.getD undef = .bool true := by simpa [Act.eval] using h70
        refine ⟨.bool true, ?_, rfl⟩
        simp only [execOp, h70]
        go_simp
      · refine .inl ⟨GrowStep.call ?_ ?_ ?_ ?_, .inr ⟨29, true, _, 71, rfl, rfl, rfl, by kernel_rfl, ?_⟩⟩
        · exact fun t v w1 w2 k h => ut1S_le w b3 x y u (.slice Aa ma ca) (.slice Ab mb cb) (.slice Ac mc cc) (.slice Da na ka) (.slice Db nb kb) (.slice Dc nc kc) s1 s2 t v w1 w2 k h
        · exact fun _ _ _ _ h => h
        · exact fun w1 w2 k h => Le.trans h k
        · intro a W hg hop
          refine ⟨8, #[], ?_, (known_c W (HL.out.le (Le.trans HL8.out hg))).mono ?_⟩
          · simp only [execOp]
            go_simp
          · rintro e w' ⟨rfl, hle⟩; exact ⟨_, rfl, hle, rfl⟩
        · intro a W _ ha
          obtain rfl : a = .bool true := ha
          rfl
      · refine .free (GrowStep.det ?_) rfl
        intro a W hg hop
        have h71 : a.eval (.tmp 71) = .bool true := (hop 71 (by simp [Op.operands, Call.operands]))
        have h71' : a.tmps[71]?.getD undef = .bool true := by simpa [Act.eval] using h71
        have h72 : a.eval (.tmp 72) = .bool true := (hop 72 (by simp [Op.operands, Call.operands]))
        have h72' : a.tmps[72]?.getD undef = .bool true := by simpa [Act.eval] using h72
        refine ⟨.bool true, ?_, rfl⟩
        simp only [execOp, h71, h72]
        go_simp
      · refine .free (GrowStep.det ?_) rfl
        intro a W hg hop
        have h73 : a.eval (.tmp 73) = .bool true := (hop 73 (by simp [Op.operands, Call.operands]))
        have h73' : a.tmps[73]?.getD undef = .bool true := by simpa [Act.eval] using h73
        refine ⟨.bool true, ?_, rfl⟩
        simp only [execOp, h73]
        go_simp
    case hend_ut1 =>
      intro s_ wz hg hS hZ
      have s2_ : s_ 2 = .bool true := hS 2 (by decide)
      have HLZ := Lib.hid (show Le w8 wz from hg)
      clear hS hZ hg
      simp only [putsL, Act.put, List.setIfInBounds_toArray, List.set_cons_zero, List.set_cons_succ]
      rw [s2_]
      go_wp2
      go_ret
      exact ⟨rfl, HL8.out.trans HLZ.out⟩
end Go.Proofs.YteedhaenbamiaaaGreatDoor
