/- Contract: the law FnUriWritten (printed by gen_fnuw.py). -/
import Derived.Test.YteedhaenbamiaaaGreatDoorGuard
import Derived.Test.YteedhaenbamiaaaGreatDoorUtx
set_option linter.unusedVariables false
set_option linter.unusedSimpArgs false
namespace Go.Proofs.YteedhaenbamiaaaGreatDoor
open Go.RowKit

theorem Sl.le2 {w w' : World} {v : Value} {ls : List Tx} (h : Sl w w v ls) (k : Le w w') : Sl w' w' v ls := by
  obtain ⟨A, c, e, h1, h2, h3, h4⟩ := h
  refine ⟨A, c, e, h1, h2, h3, fun hp => ?_⟩
  obtain ⟨g, o, e, hc⟩ := h4 hp
  exact ⟨g, o, e, fun j hj => by obtain ⟨x, h, hb⟩ := hc j hj; exact ⟨x, k.cell h, hb.le k⟩⟩
def fwS (w : World) (x : UV) (u : PU) (Ahost Ascheme : Option Addr) (chost cscheme np : Nat) (vc : Value) (sb : Bool) : Nat → Value → World → Prop
  | 1, v, _ => v = (.pointer (some ⟨w.heap.size, 0, none⟩))
  | 5, v, _ => v = vc
  | 6, v, _ => v = .bool sb
  | 28, v, _ => v = x.val
  | 29, v, w_ => Bv w_ v (uText u)
  | 30, v, _ => v = x.val
  | 31, v, w_ => Bv w_ v (lwText u)
  | 32, v, _ => v = .bool true
  | 33, v, _ => v = .bool false
  | 34, v, _ => v = .bool false
  | 35, v, _ => v = vc
  | 36, v, _ => v = (.pointer (some ⟨w.heap.size, 6, none⟩))
  | 37, v, _ => v = (.slice Ahost u.host.length chost)
  | 38, v, w_ => Bv w_ v [58]
  | 39, v, _ => v = (.pointer (some ⟨w.heap.size, 7, none⟩))
  | 40, v, _ => v = .int .i64 (np : Int)
  | 41, v, w_ => Bv w_ v (Lib.itoa (np : Int))
  | 42, v, w_ => Sl w_ w_ v [u.host, [58], Lib.itoa (np : Int)]
  | 43, v, w_ => Bv w_ v (hpT u)
  | 44, v, _ => v = .bool true
  | 45, v, _ => v = .bool false
  | 46, v, _ => v = .bool false
  | 47, v, _ => v = .bool false
  | 48, v, _ => v = .bool sb
  | 49, v, _ => v = (.pointer (some ⟨w.heap.size, 0, none⟩))
  | 50, v, _ => v = (.slice Ascheme u.scheme.length cscheme)
  | 51, v, _ => v = .bool sb
  | 52, v, _ => v = .bool false
  | 53, v, _ => v = .bool false
  | _, _, _ => True
theorem fwS_le (w : World) (x : UV) (u : PU) (Ahost Ascheme : Option Addr) (chost cscheme np : Nat) (vc : Value) (sb : Bool) (t : Nat) (v : Value) (w1 w2 : World) (k : Le w1 w2) (h : fwS w x u Ahost Ascheme chost cscheme np vc sb t v w1) : fwS w x u Ahost Ascheme chost cscheme np vc sb t v w2 := by
  unfold fwS at h ⊢
  split at h <;> first | exact h | exact Bv.le h k | exact Sl.le2 h k
set_option maxRecDepth 8000 in
set_option maxHeartbeats 16000000 in
theorem fnUriWritten_c (w : World) (x : UV) (u : PU) (hx : Uw w x u) (hL : Laid w) :
    Calls Tryz.prog 5 #[x.val] w fun e w' => e = .returned (.bool true) ∧ Le w w' := by
  have HX := Lib.hid hx
  have HL := Lib.hid hL
  have hval : Hid (x.val = .agg #[x.scheme, x.raw, .bool x.wild, .bool x.slash, x.user, x.pass, x.host, .int .i64 x.port, x.ps, x.hs]) := Lib.hid rfl
  clear hx hL
  rw [hval.out]
  go_enter Tryz.func5, Tryz.ntmps5
  have HB0 : Hid ((w.alloc (Obj.cells #[x.scheme, x.raw, .bool x.wild, .bool x.slash, x.user, x.pass, x.host, .int .i64 x.port, x.ps, x.hs] 32)).heap[w.heap.size]? = some (.cells x.row 32 (0, 0))) := Lib.hid (heap_alloc_new w _)
  have HL0 : Hid (Le w (w.alloc (Obj.cells #[x.scheme, x.raw, .bool x.wild, .bool x.slash, x.user, x.pass, x.host, .int .i64 x.port, x.ps, x.hs] 32))) := Lib.hid ((Le.refl w).alloc _)
  go_upto_region 1 with fail
  generalize w.alloc (Obj.cells #[x.scheme, x.raw, .bool x.wild, .bool x.slash, x.user, x.pass, x.host, .int .i64 x.port, x.ps, x.hs] 32) = W0 at HB0 HL0 ⊢
  generalize Value.agg #[x.scheme, x.raw, .bool x.wild, .bool x.slash, x.user, x.pass, x.host, .int .i64 x.port, x.ps, x.hs] = ag0
  go_wp2_with (refine wpList_load_row rfl 32 (.tmp 1) rfl w.heap.size rfl 32 x.row (0, 0) _ HB0.out Tryz.underlying32 rfl uri_size ?_)
  refine (zzFits2_c W0 x u (ftU u) rfl (HX.out.le HL0.out)).mono ?_
  rintro e w1 ⟨rfl, hle1⟩
  have HL1 := Lib.hid (HL0.out.trans hle1)
  have HB1 := Lib.hid (hle1.heap HB0.out)
  clear hle1
  cases hf : ftU u
  · clear hf
    go_wp2
    go_ret
    exact ⟨rfl, HL1.out⟩
  obtain ⟨_, _, _, _, _, f6, f7⟩ := ftU_parts hf
  have HQ : Hid (Uq (fun _ => True) w x u) := Lib.hid (HX.out.uq (by have := (ftKs_parts f6).1; omega) (by have := (ftKs_parts f7).1; omega))
  clear f6 f7 hf
  go_wp2_with (refine wpList_load_row rfl 32 (.tmp 1) rfl w.heap.size rfl 32 x.row (0, 0) _ HB1.out Tryz.underlying32 rfl uri_size ?_)
  refine (isUri_c w1 x u (HQ.out.le HL1.out)).mono ?_
  rintro e w2 ⟨g, rfl, hg, hle2⟩
  have HL2 := Lib.hid (HL1.out.trans hle2)
  have HB2 := Lib.hid (hle2.heap HB1.out)
  have HG := Lib.hid hg
  clear hle2 hg
  cases g
  · go_wp2_with fail
    refine (known_c w2 (HL.out.le HL2.out)).mono ?_
    rintro e w3 ⟨rfl, hle3⟩
    have HL3 := Lib.hid (HL2.out.trans hle3)
    clear hle3
    go_wp2
    go_ret
    exact ⟨rfl, HL3.out⟩
  have HGG := Lib.hid (HG.out rfl)
  clear HG
  go_wp2_with (refine wpList_load_row rfl 32 (.tmp 1) rfl w.heap.size rfl 32 x.row (0, 0) _ HB2.out Tryz.underlying32 rfl uri_size ?_)
  refine (iParts_c _ w2 x u (HQ.out.le HL2.out) (gSmall HGG.out) HGG.out.raw (HL.out.le HL2.out) (gKvs HGG.out.ps 59).1 (gKvs HGG.out.hs 38).1).mono ?_
  rintro e w3 ⟨va, vb, vc, rfl, hva, hvb, hvc, hle3⟩
  have HL3 := Lib.hid (HL2.out.trans hle3)
  have HB3 := Lib.hid (hle3.heap HB2.out)
  have HVA3 := Lib.hid hva
  have HVB3 := Lib.hid hvb
  have HVC3 := Lib.hid hvc
  obtain ⟨Ascheme, cscheme, escheme⟩ := HQ.out.scheme.1.form
  obtain ⟨Auser, cuser, euser⟩ := HQ.out.user.1.form
  obtain ⟨Ahost, chost, ehost⟩ := HQ.out.host.1.form
  obtain ⟨np, hnp⟩ : ∃ np : Nat, u.port = (np : Int) := ⟨u.port.toNat, by have := HGG.out.lo; omega⟩
  have HNP : Hid (np ≤ 65535) := Lib.hid (by have := HGG.out.hi; omega)
  have HNX : Hid (x.port = (np : Int)) := Lib.hid (by rw [HQ.out.port, hnp])
  have HNT : Hid (u.port.toNat = np) := Lib.hid (by rw [hnp]; rfl)
  have HUP : Hid (u.port = (np : Int)) := Lib.hid hnp
  have HES := Lib.hid escheme
  have HEU := Lib.hid euser
  have HEH := Lib.hid ehost
  obtain ⟨sb, hsb⟩ : ∃ sb, decide (u.scheme = sSips) = sb := ⟨_, rfl⟩
  have HSB := Lib.hid hsb
  rw [hsb]
  obtain ⟨ma, Aa, ca, rfl⟩ : ∃ m A c, va = .slice A m c := by obtain ⟨A, c, e⟩ := hva.form; exact ⟨_, A, c, e⟩
  obtain ⟨mb, Ab, cb, rfl⟩ : ∃ m A c, vb = .slice A m c := by obtain ⟨A, c, e⟩ := hvb.form; exact ⟨_, A, c, e⟩
  obtain ⟨mc, Ac, cc, rfl⟩ : ∃ m A c, vc = .slice A m c := by obtain ⟨A, c, e⟩ := hvc.form; exact ⟨_, A, c, e⟩
  clear hle3 hva hvb hvc hnp escheme euser ehost hsb
  have y6 : w3.cell? ⟨w.heap.size, 6, none⟩ = some (.slice Ahost u.host.length chost) := by rw [cell_cells HB3.out 6]; show some x.host = _; rw [HEH.out]
  have y7 : w3.cell? ⟨w.heap.size, 7, none⟩ = some (.int .i64 (np : Int)) := by rw [cell_cells HB3.out 7]; show some (Value.int .i64 x.port) = _; rw [HNX.out]
  go_wp2_with fail
  refine (hostText_c w3 _ u.host np (by have h := (HQ.out.host.1.le HL3.out); rw [HEH.out] at h; exact h) (by have := (gHost HGG.out).2.2; omega) HNP.out).mono ?_
  rintro e w4 ⟨vh, rfl, hvh, hle4⟩
  have HL4 := Lib.hid (HL3.out.trans hle4)
  have HB4 := Lib.hid (hle4.heap HB3.out)
  have HVA := Lib.hid (HVA3.out.le hle4)
  have HVB := Lib.hid (HVB3.out.le hle4)
  have HVC := Lib.hid (HVC3.out.le hle4)
  have HAT := Lib.hid hvh
  have HSC : Hid (Bv w4 (.slice Ascheme u.scheme.length cscheme) u.scheme) := Lib.hid (by have h := (HQ.out.scheme.1.le HL4.out); rw [HES.out] at h; exact h)
  have HUS : Hid (Bv w4 (.slice Auser u.user.length cuser) u.user) := Lib.hid (by have h := (HQ.out.user.1.le HL4.out); rw [HEU.out] at h; exact h)
  have HHB : Hid (Bv w4 (.slice Ahost u.host.length chost) u.host) := Lib.hid (by have h := (HQ.out.host.1.le HL4.out); rw [HEH.out] at h; exact h)
  obtain ⟨mh, Ah, ch, rfl⟩ : ∃ m A c, vh = .slice A m c := by obtain ⟨A, c, e⟩ := hvh.form; exact ⟨_, A, c, e⟩
  have HHP : Hid ([u.host, [58], Lib.itoa (np : Int)].flatten = hpT u) := Lib.hid (by unfold hpT; rw [HUP.out]; simp)
  have HHL : Hid ((hpT u).length ≤ 1000000) := Lib.hid (by
    have h1 := (gHost HGG.out).2.2
    have h2 := itoa_len np HNP.out
    unfold hpT
    rw [HUP.out]
    simp only [List.length_append, List.length_cons]
    omega)
  have HWH : Hid ([u.user, [64], hostT u.host np].flatten = u.user ++ 64 :: hostT u.host np) := Lib.hid (by simp)
  have HWH2 : Hid ([u.scheme, [58], u.user ++ 64 :: hostT u.host np].flatten = u.scheme ++ 58 :: (u.user ++ 64 :: hostT u.host np)) := Lib.hid (by simp)
  have HWL : Hid ((u.user ++ 64 :: hostT u.host np).length ≤ 1000000 ∧ (u.scheme ++ 58 :: (u.user ++ 64 :: hostT u.host np)).length ≤ 1000000) := Lib.hid (by
    have h1 := (gHost HGG.out).2.2
    have h2 := itoa_len np HNP.out
    have h3 := (gUser HGG.out).1
    have h4 := (gScheme HGG.out).2
    have h5 : (hostT u.host np).length ≤ 20000 := by
      unfold hostT
      split
      · omega
      · simp only [List.length_append, List.length_cons]; omega
    simp only [List.length_append, List.length_cons]
    omega)
  have HEE : Hid (epT u = u.user ++ 64 :: hostT u.host np) := Lib.hid (by rw [gEp HGG.out.lo, HNT.out])
  clear hle4 hvh y6 y7 HVA3 HVB3 HVC3
  go_upto_region 7 with fail
  have hm_fw : (Tryz.prog).follows .mixedOrders = true := by kernel_rfl
  refine G2.wp_region_grow_put (fwS w x u Ahost Ascheme chost cscheme np (.slice Ac mc cc) sb) (fun _ _ => True) ((Le w4)) 82 [28, 29, 30, 31, 32, 33, 34, 35, 36, 37, 38, 39, 40, 41, 42, 43, 44, 45, 46, 47, 48, 49, 50, 51, 52, 53] hm_fw (by kernel_rfl) rfl rfl ?hG_fw ?hold_fw ?hs_fw ?hend_fw
  case hG_fw => exact (Le.refl w4).drew
  case hold_fw =>
    intro t ht
    simp only [List.mem_cons, List.mem_nil_iff, or_false, not_or] at ht
    unfold fwS
    split <;> first | rfl | trivial | (exfalso; simp at ht)
  case hs_fw =>
    refine ⟨?_, ?_, ?_, ?_, ?_, ?_, ?_, ?_, ?_, ?_, ?_, ?_, ?_, ?_, ?_, ?_, ?_, ?_, ?_, ?_, ?_, ?_, ?_, ?_, ?_, ?_, trivial⟩
    · refine .free (GrowStep.det ?_) rfl
      intro a W hg hop
      have h1 : a.eval (.tmp 1) = (.pointer (some ⟨w.heap.size, 0, none⟩)) := (hop 1 (by simp [Op.operands, Call.operands]))
      have h1' : a.tmps[1]?.getD undef = (.pointer (some ⟨w.heap.size, 0, none⟩)) := by simpa [Act.eval] using h1
      refine ⟨x.val, ?_, rfl⟩
      have hs := loadAt_row (P := Tryz.prog) (hg.heap HB4.out) Tryz.underlying32 rfl uri_size
      simp only [execOp, h1, hs, Sem.run_bind, Sem.run_pure, Result.andThen, Sem.run_map]
      rfl
    · refine .free (GrowStep.call ?_ ?_ ?_ ?_) rfl
      · exact fun t v w1 w2 k h => fwS_le w x u Ahost Ascheme chost cscheme np (.slice Ac mc cc) sb t v w1 w2 k h
      · exact fun _ _ _ _ h => h
      · exact fun w1 w2 k h => Le.trans h k
      · intro a W hg hop
        have h28 : a.eval (.tmp 28) = x.val := (hop 28 (by simp [Op.operands, Call.operands]))
        have h28' : a.tmps[28]?.getD undef = x.val := by simpa [Act.eval] using h28
        refine ⟨18, #[x.val], ?_, (uriText_c _ W x u (HQ.out.le (Le.trans HL4.out hg)) (gSmall HGG.out) HGG.out.raw (HL.out.le (Le.trans HL4.out hg)) (gHost HGG.out).1 (gKvs HGG.out.ps 59).1 (gKvs HGG.out.hs 38).1 (by have := (gKvs HGG.out.ps 59).2; omega) (by have := (gKvs HGG.out.hs 38).2; omega)).mono ?_⟩
        · simp only [execOp, h28]
          go_simp
        · rintro e w' ⟨v', rfl, hv, hle⟩; exact ⟨_, rfl, hle, hv.1⟩
    · refine .free (GrowStep.det ?_) rfl
      intro a W hg hop
      have h1 : a.eval (.tmp 1) = (.pointer (some ⟨w.heap.size, 0, none⟩)) := (hop 1 (by simp [Op.operands, Call.operands]))
      have h1' : a.tmps[1]?.getD undef = (.pointer (some ⟨w.heap.size, 0, none⟩)) := by simpa [Act.eval] using h1
      refine ⟨x.val, ?_, rfl⟩
      have hs := loadAt_row (P := Tryz.prog) (hg.heap HB4.out) Tryz.underlying32 rfl uri_size
      simp only [execOp, h1, hs, Sem.run_bind, Sem.run_pure, Result.andThen, Sem.run_map]
      rfl
    · refine .free (GrowStep.call ?_ ?_ ?_ ?_) rfl
      · exact fun t v w1 w2 k h => fwS_le w x u Ahost Ascheme chost cscheme np (.slice Ac mc cc) sb t v w1 w2 k h
      · exact fun _ _ _ _ h => h
      · exact fun w1 w2 k h => Le.trans h k
      · intro a W hg hop
        have h30 : a.eval (.tmp 30) = x.val := (hop 30 (by simp [Op.operands, Call.operands]))
        have h30' : a.tmps[30]?.getD undef = x.val := by simpa [Act.eval] using h30
        refine ⟨22, #[x.val], ?_, (lUriText_c W x u (HQ.out.le (Le.trans HL4.out hg)) (gSz HGG.out)).mono ?_⟩
        · simp only [execOp, h30]
          go_simp
        · rintro e w' ⟨v', rfl, hv, hle⟩; exact ⟨_, rfl, hle, hv.bv (by have := gLwLen HGG.out; omega)⟩
    · refine .free (GrowStep.call ?_ ?_ ?_ ?_) rfl
      · exact fun t v w1 w2 k h => fwS_le w x u Ahost Ascheme chost cscheme np (.slice Ac mc cc) sb t v w1 w2 k h
      · exact fun _ _ _ _ h => h
      · exact fun w1 w2 k h => Le.trans h k
      · intro a W hg hop
        have h29 : Bv W (a.eval (.tmp 29)) (uText u) := (hop 29 (by simp [Op.operands, Call.operands]))
        have h31 : Bv W (a.eval (.tmp 31)) (lwText u) := (hop 31 (by simp [Op.operands, Call.operands]))
        refine ⟨11, #[a.eval (.tmp 29), a.eval (.tmp 31)], ?_, (equal_l W _ _ _ _ true (decide_eq_true (gText HGG.out)) h29 h31).mono ?_⟩
        · simp only [execOp]
          go_simp
        · rintro e w' ⟨rfl, hle⟩; exact ⟨_, rfl, hle, rfl⟩
    · refine .free (GrowStep.det ?_) rfl
      intro a W hg hop
      have h32 : a.eval (.tmp 32) = .bool true := (hop 32 (by simp [Op.operands, Call.operands]))
      have h32' : a.tmps[32]?.getD undef = .bool true := by simpa [Act.eval] using h32
      refine ⟨.bool false, ?_, rfl⟩
      simp only [execOp, h32]
      go_simp
    · refine .free (GrowStep.det ?_) rfl
      intro a W hg hop
      have h33 : a.eval (.tmp 33) = .bool false := (hop 33 (by simp [Op.operands, Call.operands]))
      have h33' : a.tmps[33]?.getD undef = .bool false := by simpa [Act.eval] using h33
      refine ⟨.bool false, ?_, rfl⟩
      simp only [execOp, h33]
      go_simp
    · refine .inl ⟨GrowStep.det ?_, .inr ⟨6, false, _, 34, rfl, rfl, rfl, by kernel_rfl, ?_⟩⟩
      · intro a W hg hop
        have h5 : a.eval (.tmp 5) = (.slice Ac mc cc) := (hop 5 (by simp [Op.operands, Call.operands]))
        have h5' : a.tmps[5]?.getD undef = (.slice Ac mc cc) := by simpa [Act.eval] using h5
        refine ⟨(.slice Ac mc cc), ?_, rfl⟩
        simp only [execOp, h5]
        go_simp
      · intro a W _ ha
        obtain rfl : a = .bool false := ha
        rfl
    · refine .inl ⟨GrowStep.det ?_, .inr ⟨6, false, _, 34, rfl, rfl, rfl, by kernel_rfl, ?_⟩⟩
      · intro a W hg hop
        have h1 : a.eval (.tmp 1) = (.pointer (some ⟨w.heap.size, 0, none⟩)) := (hop 1 (by simp [Op.operands, Call.operands]))
        have h1' : a.tmps[1]?.getD undef = (.pointer (some ⟨w.heap.size, 0, none⟩)) := by simpa [Act.eval] using h1
        refine ⟨(.pointer (some ⟨w.heap.size, 6, none⟩)), ?_, rfl⟩
        simp only [execOp, h1]
        go_simp
      · intro a W _ ha
        obtain rfl : a = .bool false := ha
        rfl
    · refine .inl ⟨GrowStep.det ?_, .inr ⟨6, false, _, 34, rfl, rfl, rfl, by kernel_rfl, ?_⟩⟩
      · intro a W hg hop
        have h36 : a.eval (.tmp 36) = (.pointer (some ⟨w.heap.size, 6, none⟩)) := (hop 36 (by simp [Op.operands, Call.operands]))
        have h36' : a.tmps[36]?.getD undef = (.pointer (some ⟨w.heap.size, 6, none⟩)) := by simpa [Act.eval] using h36
        have hc : W.cell? ⟨w.heap.size, 6, none⟩ = some (.slice Ahost u.host.length chost) := by rw [cell_cells (hg.heap HB4.out) 6]; show some x.host = _; rw [HEH.out]
        refine ⟨(.slice Ahost u.host.length chost), ?_, rfl⟩
        simp only [execOp, h36]
        go_simp
      · intro a W _ ha
        obtain rfl : a = .bool false := ha
        rfl
    · refine .inl ⟨GrowStep.le ?_ ?_ ?_ ?_, .inr ⟨6, false, _, 34, rfl, rfl, rfl, by kernel_rfl, ?_⟩⟩
      · exact fun t v w1 w2 k h => fwS_le w x u Ahost Ascheme chost cscheme np (.slice Ac mc cc) sb t v w1 w2 k h
      · exact fun _ _ _ _ h => h
      · exact fun w1 w2 k h => Le.trans h k
      · intro a W hg hop
        refine ⟨.slice (some ⟨W.heap.size, 0, none⟩) 1 1, W.alloc (Obj.cells #[.int .u8 58] 5), ?_, (Le.refl W).alloc _, ?_⟩
        · simp only [execOp]
          go_simp
        · exact bv_lit W [58] (by decide) (0, 0)
      · intro a W _ ha
        obtain rfl : a = .bool false := ha
        rfl
    · refine .inl ⟨GrowStep.det ?_, .inr ⟨6, false, _, 34, rfl, rfl, rfl, by kernel_rfl, ?_⟩⟩
      · intro a W hg hop
        have h1 : a.eval (.tmp 1) = (.pointer (some ⟨w.heap.size, 0, none⟩)) := (hop 1 (by simp [Op.operands, Call.operands]))
        have h1' : a.tmps[1]?.getD undef = (.pointer (some ⟨w.heap.size, 0, none⟩)) := by simpa [Act.eval] using h1
        refine ⟨(.pointer (some ⟨w.heap.size, 7, none⟩)), ?_, rfl⟩
        simp only [execOp, h1]
        go_simp
      · intro a W _ ha
        obtain rfl : a = .bool false := ha
        rfl
    · refine .inl ⟨GrowStep.det ?_, .inr ⟨6, false, _, 34, rfl, rfl, rfl, by kernel_rfl, ?_⟩⟩
      · intro a W hg hop
        have h39 : a.eval (.tmp 39) = (.pointer (some ⟨w.heap.size, 7, none⟩)) := (hop 39 (by simp [Op.operands, Call.operands]))
        have h39' : a.tmps[39]?.getD undef = (.pointer (some ⟨w.heap.size, 7, none⟩)) := by simpa [Act.eval] using h39
        have hc : W.cell? ⟨w.heap.size, 7, none⟩ = some (.int .i64 (np : Int)) := by rw [cell_cells (hg.heap HB4.out) 7]; show some (Value.int .i64 x.port) = _; rw [HNX.out]
        refine ⟨.int .i64 (np : Int), ?_, rfl⟩
        simp only [execOp, h39]
        go_simp
      · intro a W _ ha
        obtain rfl : a = .bool false := ha
        rfl
    · refine .inl ⟨GrowStep.call ?_ ?_ ?_ ?_, .inr ⟨6, false, _, 34, rfl, rfl, rfl, by kernel_rfl, ?_⟩⟩
      · exact fun t v w1 w2 k h => fwS_le w x u Ahost Ascheme chost cscheme np (.slice Ac mc cc) sb t v w1 w2 k h
      · exact fun _ _ _ _ h => h
      · exact fun w1 w2 k h => Le.trans h k
      · intro a W hg hop
        have h40 : a.eval (.tmp 40) = .int .i64 (np : Int) := (hop 40 (by simp [Op.operands, Call.operands]))
        have h40' : a.tmps[40]?.getD undef = .int .i64 (np : Int) := by simpa [Act.eval] using h40
        refine ⟨24, #[.int .i64 (np : Int)], ?_, (decimal_c W np HNP.out).mono ?_⟩
        · simp only [execOp, h40]
          go_simp
        · rintro e w' ⟨v', rfl, hv, hle⟩; exact ⟨_, rfl, hle, hv⟩
      · intro a W _ ha
        obtain rfl : a = .bool false := ha
        rfl
    · refine .inl ⟨GrowStep.le ?_ ?_ ?_ ?_, .inr ⟨6, false, _, 34, rfl, rfl, rfl, by kernel_rfl, ?_⟩⟩
      · exact fun t v w1 w2 k h => fwS_le w x u Ahost Ascheme chost cscheme np (.slice Ac mc cc) sb t v w1 w2 k h
      · exact fun _ _ _ _ h => h
      · exact fun w1 w2 k h => Le.trans h k
      · intro a W hg hop
        have h37 : a.eval (.tmp 37) = (.slice Ahost u.host.length chost) := (hop 37 (by simp [Op.operands, Call.operands]))
        have h37' : a.tmps[37]?.getD undef = (.slice Ahost u.host.length chost) := by simpa [Act.eval] using h37
        have h38 : Bv W (a.eval (.tmp 38)) [58] := (hop 38 (by simp [Op.operands, Call.operands]))
        have h41 : Bv W (a.eval (.tmp 41)) (Lib.itoa (np : Int)) := (hop 41 (by simp [Op.operands, Call.operands]))
        obtain ⟨A8, c8, e8⟩ : ∃ A c, a.eval (.tmp 38) = .slice A 1 c := h38.form
        obtain ⟨m9, A9, c9, e9⟩ : ∃ m A c, a.eval (.tmp 41) = .slice A m c := by obtain ⟨A, c, e⟩ := h41.form; exact ⟨_, A, c, e⟩
        have e8' : a.tmps[38]?.getD undef = .slice A8 1 c8 := by simpa [Act.eval] using e8
        have e9' : a.tmps[41]?.getD undef = .slice A9 m9 c9 := by simpa [Act.eval] using e9
        refine ⟨.slice (some ⟨W.heap.size, 0, none⟩) 3 3, W.alloc (Obj.cells #[(.slice Ahost u.host.length chost), .slice A8 1 c8, .slice A9 m9 c9] 22), ?_, (Le.refl W).alloc _, ?_⟩
        · simp only [execOp, h37, e8, e9]
          go_simp
        · exact sl_three W _ _ _ _ _ _ (HHB.out.le hg) (by rw [← e8]; exact h38) (by rw [← e9]; exact h41)
      · intro a W _ ha
        obtain rfl : a = .bool false := ha
        rfl
    · refine .inl ⟨GrowStep.call ?_ ?_ ?_ ?_, .inr ⟨6, false, _, 34, rfl, rfl, rfl, by kernel_rfl, ?_⟩⟩
      · exact fun t v w1 w2 k h => fwS_le w x u Ahost Ascheme chost cscheme np (.slice Ac mc cc) sb t v w1 w2 k h
      · exact fun _ _ _ _ h => h
      · exact fun w1 w2 k h => Le.trans h k
      · intro a W hg hop
        have h42 : Sl W W (a.eval (.tmp 42)) [u.host, [58], Lib.itoa (np : Int)] := (hop 42 (by simp [Op.operands, Call.operands]))
        refine ⟨23, #[a.eval (.tmp 42)], ?_, (joined_c _ _ _ h42 (by rw [HHP.out]; have := HHL.out; omega)).mono ?_⟩
        · simp only [execOp]
          go_simp
        · rintro e w' ⟨v', rfl, hown, hle⟩; exact ⟨_, rfl, hle, by have hb := hown.bv (by rw [HHP.out]; have := HHL.out; omega); rw [HHP.out] at hb; exact hb⟩
      · intro a W _ ha
        obtain rfl : a = .bool false := ha
        rfl
    · refine .inl ⟨GrowStep.call ?_ ?_ ?_ ?_, .inr ⟨6, false, _, 34, rfl, rfl, rfl, by kernel_rfl, ?_⟩⟩
      · exact fun t v w1 w2 k h => fwS_le w x u Ahost Ascheme chost cscheme np (.slice Ac mc cc) sb t v w1 w2 k h
      · exact fun _ _ _ _ h => h
      · exact fun w1 w2 k h => Le.trans h k
      · intro a W hg hop
        have h35 : a.eval (.tmp 35) = (.slice Ac mc cc) := (hop 35 (by simp [Op.operands, Call.operands]))
        have h35' : a.tmps[35]?.getD undef = (.slice Ac mc cc) := by simpa [Act.eval] using h35
        have h43 : Bv W (a.eval (.tmp 43)) (hpT u) := (hop 43 (by simp [Op.operands, Call.operands]))
        refine ⟨11, #[(.slice Ac mc cc), a.eval (.tmp 43)], ?_, (equal_l W _ _ _ _ true (decide_eq_true rfl) (HVC.out.le hg) h43).mono ?_⟩
        · simp only [execOp, h35]
          go_simp
        · rintro e w' ⟨rfl, hle⟩; exact ⟨_, rfl, hle, rfl⟩
      · intro a W _ ha
        obtain rfl : a = .bool false := ha
        rfl
    · refine .inl ⟨GrowStep.det ?_, .inr ⟨6, false, _, 34, rfl, rfl, rfl, by kernel_rfl, ?_⟩⟩
      · intro a W hg hop
        have h44 : a.eval (.tmp 44) = .bool true := (hop 44 (by simp [Op.operands, Call.operands]))
        have h44' : a.tmps[44]?.getD undef = .bool true := by simpa [Act.eval] using h44
        refine ⟨.bool false, ?_, rfl⟩
        simp only [execOp, h44]
        go_simp
      · intro a W _ ha
        obtain rfl : a = .bool false := ha
        rfl
    · refine .free (GrowStep.det ?_) rfl
      intro a W hg hop
      have h34 : a.eval (.tmp 34) = .bool false := (hop 34 (by simp [Op.operands, Call.operands]))
      have h34' : a.tmps[34]?.getD undef = .bool false := by simpa [Act.eval] using h34
      have h45 : a.eval (.tmp 45) = .bool false := (hop 45 (by simp [Op.operands, Call.operands]))
      have h45' : a.tmps[45]?.getD undef = .bool false := by simpa [Act.eval] using h45
      refine ⟨.bool false, ?_, rfl⟩
      simp only [execOp, h34, h45]
      go_simp
    · refine .free (GrowStep.det ?_) rfl
      intro a W hg hop
      have h46 : a.eval (.tmp 46) = .bool false := (hop 46 (by simp [Op.operands, Call.operands]))
      have h46' : a.tmps[46]?.getD undef = .bool false := by simpa [Act.eval] using h46
      refine ⟨.bool false, ?_, rfl⟩
      simp only [execOp, h46]
      go_simp
    · refine .inl ⟨GrowStep.det ?_, .inr ⟨19, false, _, 47, rfl, rfl, rfl, by kernel_rfl, ?_⟩⟩
      · intro a W hg hop
        have h6 : a.eval (.tmp 6) = .bool sb := (hop 6 (by simp [Op.operands, Call.operands]))
        have h6' : a.tmps[6]?.getD undef = .bool sb := by simpa [Act.eval] using h6
        refine ⟨.bool sb, ?_, rfl⟩
        simp only [execOp, h6]
        go_simp
      · intro a W _ ha
        obtain rfl : a = .bool false := ha
        rfl
    · refine .inl ⟨GrowStep.det ?_, .inr ⟨19, false, _, 47, rfl, rfl, rfl, by kernel_rfl, ?_⟩⟩
      · intro a W hg hop
        have h1 : a.eval (.tmp 1) = (.pointer (some ⟨w.heap.size, 0, none⟩)) := (hop 1 (by simp [Op.operands, Call.operands]))
        have h1' : a.tmps[1]?.getD undef = (.pointer (some ⟨w.heap.size, 0, none⟩)) := by simpa [Act.eval] using h1
        refine ⟨(.pointer (some ⟨w.heap.size, 0, none⟩)), ?_, rfl⟩
        simp only [execOp, h1]
        go_simp
      · intro a W _ ha
        obtain rfl : a = .bool false := ha
        rfl
    · refine .inl ⟨GrowStep.det ?_, .inr ⟨19, false, _, 47, rfl, rfl, rfl, by kernel_rfl, ?_⟩⟩
      · intro a W hg hop
        have h49 : a.eval (.tmp 49) = (.pointer (some ⟨w.heap.size, 0, none⟩)) := (hop 49 (by simp [Op.operands, Call.operands]))
        have h49' : a.tmps[49]?.getD undef = (.pointer (some ⟨w.heap.size, 0, none⟩)) := by simpa [Act.eval] using h49
        have hc : W.cell? ⟨w.heap.size, 0, none⟩ = some (.slice Ascheme u.scheme.length cscheme) := by rw [cell_cells (hg.heap HB4.out) 0]; show some x.scheme = _; rw [HES.out]
        refine ⟨(.slice Ascheme u.scheme.length cscheme), ?_, rfl⟩
        simp only [execOp, h49]
        go_simp
      · intro a W _ ha
        obtain rfl : a = .bool false := ha
        rfl
    · refine .inl ⟨GrowStep.call ?_ ?_ ?_ ?_, .inr ⟨19, false, _, 47, rfl, rfl, rfl, by kernel_rfl, ?_⟩⟩
      · exact fun t v w1 w2 k h => fwS_le w x u Ahost Ascheme chost cscheme np (.slice Ac mc cc) sb t v w1 w2 k h
      · exact fun _ _ _ _ h => h
      · exact fun w1 w2 k h => Le.trans h k
      · intro a W hg hop
        have h50 : a.eval (.tmp 50) = (.slice Ascheme u.scheme.length cscheme) := (hop 50 (by simp [Op.operands, Call.operands]))
        have h50' : a.tmps[50]?.getD undef = (.slice Ascheme u.scheme.length cscheme) := by simpa [Act.eval] using h50
        refine ⟨25, #[(.slice Ascheme u.scheme.length cscheme), .string ⟨#[115, 105, 112, 115]⟩], ?_, (is_d W _ u.scheme sSips _ sb (HSC.out.le hg) rfl (by decide) HSB.out).mono ?_⟩
        · simp only [execOp, h50]
          go_simp
        · rintro e w' ⟨rfl, hle⟩; exact ⟨_, rfl, hle, rfl⟩
      · intro a W _ ha
        obtain rfl : a = .bool false := ha
        rfl
    · refine .inl ⟨GrowStep.det ?_, .inr ⟨19, false, _, 47, rfl, rfl, rfl, by kernel_rfl, ?_⟩⟩
      · intro a W hg hop
        have h48 : a.eval (.tmp 48) = .bool sb := (hop 48 (by simp [Op.operands, Call.operands]))
        have h48' : a.tmps[48]?.getD undef = .bool sb := by simpa [Act.eval] using h48
        have h51 : a.eval (.tmp 51) = .bool sb := (hop 51 (by simp [Op.operands, Call.operands]))
        have h51' : a.tmps[51]?.getD undef = .bool sb := by simpa [Act.eval] using h51
        refine ⟨.bool false, ?_, rfl⟩
        simp only [execOp, h48, h51]
        cases sb <;> go_simp
      · intro a W _ ha
        obtain rfl : a = .bool false := ha
        rfl
    · refine .free (GrowStep.det ?_) rfl
      intro a W hg hop
      have h47 : a.eval (.tmp 47) = .bool false := (hop 47 (by simp [Op.operands, Call.operands]))
      have h47' : a.tmps[47]?.getD undef = .bool false := by simpa [Act.eval] using h47
      have h52 : a.eval (.tmp 52) = .bool false := (hop 52 (by simp [Op.operands, Call.operands]))
      have h52' : a.tmps[52]?.getD undef = .bool false := by simpa [Act.eval] using h52
      refine ⟨.bool false, ?_, rfl⟩
      simp only [execOp, h47, h52]
      go_simp
  case hend_fw =>
    intro s_ wz hg hS hZ
    have s53 : s_ 53 = .bool false := hS 53 (by decide)
    have HLZ := Lib.hid (show Le w4 wz from hg)
    clear hS hZ hg
    simp only [putsL, Act.put, List.setIfInBounds_toArray, List.set_cons_zero, List.set_cons_succ]
    rw [s53]
    have HBZ := Lib.hid (HLZ.out.heap HB4.out)
    have y4 : wz.cell? ⟨w.heap.size, 4, none⟩ = some (.slice Auser u.user.length cuser) := by rw [cell_cells HBZ.out 4]; show some x.user = _; rw [HEU.out]
    have hb64 : Bv (wz.alloc (Obj.cells #[.int .u8 64] 5)) (.slice (some ⟨wz.heap.size, 0, none⟩) 1 1) [64] := bv_lit wz [64] (by decide) (0, 0)
    have hs9 := sl_three (wz.alloc (Obj.cells #[.int .u8 64] 5)) _ _ _ _ _ _ (HUS.out.le (HLZ.out.alloc _)) hb64 (HAT.out.le (HLZ.out.alloc _))
    rw [show (wz.alloc (Obj.cells #[.int .u8 64] 5)).heap.size = wz.heap.size + 1 from by simp] at hs9
    have HS9 := Lib.hid hs9
    clear hb64 hs9
    go_wp2_with fail
    refine (joined_c _ _ _ HS9.out (by have := HWL.out; rw [HWH.out]; omega)).mono ?_
    rintro e w9 ⟨v9, rfl, hown9, hle9⟩
    have HV9 : Hid (Bv w9 v9 (u.user ++ 64 :: hostT u.host np)) := Lib.hid (by have hb := hown9.bv (by have := HWL.out; rw [HWH.out]; omega); rw [HWH.out] at hb; exact hb)
    have HL9 : Hid (Le w4 w9) := Lib.hid (Le.trans ((HLZ.out.alloc _).alloc _) hle9)
    obtain ⟨A9, c9, e9⟩ := HV9.out.form
    subst e9
    clear hown9 hle9 y4 HS9
    generalize hm9 : (u.user ++ 64 :: hostT u.host np).length = m9
    have HB9 := Lib.hid (HL9.out.heap HB4.out)
    have y4 : w9.cell? ⟨w.heap.size, 4, none⟩ = some (.slice Auser u.user.length cuser) := by rw [cell_cells HB9.out 4]; show some x.user = _; rw [HEU.out]
    have y0 : w9.cell? ⟨w.heap.size, 0, none⟩ = some (.slice Ascheme u.scheme.length cscheme) := by rw [cell_cells HB9.out 0]; show some x.scheme = _; rw [HES.out]
    by_cases hu0 : u.user = []
    · have hu : ((u.user.length : Int) == 0) = true := by rw [hu0]; rfl
      clear hu0 hm9
      go_wp2_with fail
      refine (known_c w9 (HL.out.le (Le.trans HL4.out HL9.out))).mono ?_
      rintro e w' ⟨rfl, hle⟩
      have HLX := Lib.hid (Le.trans (Le.trans HL4.out HL9.out) hle)
      clear hle
      go_wp2
      go_ret
      exact ⟨rfl, HLX.out⟩
    · have hu : ((u.user.length : Int) == 0) = false := by
        have := List.length_pos_iff.2 hu0
        rw [beq_eq_false_iff_ne]; omega
      have HEA := Lib.hid (gAd HGG.out hu0)
      rw [HNT.out] at HEA
      have HM9 := Lib.hid hm9
      clear hu0 hm9
      have HV9' : Hid (Bv w9 (.slice A9 m9 c9) (u.user ++ 64 :: hostT u.host np)) := Lib.hid (by rw [← HM9.out]; exact HV9.out)
      go_wp2_with fail
      refine (equal_l w9 _ _ _ _ true (decide_eq_true HEE.out) (HVB.out.le HL9.out) HV9'.out).mono ?_
      rintro e w10 ⟨rfl, hle10⟩
      have HL10 : Hid (Le w4 w10) := Lib.hid (Le.trans HL9.out hle10)
      have HV10 := Lib.hid (HV9'.out.le hle10)
      clear hle10 y0 y4
      have HB10 := Lib.hid (HL10.out.heap HB4.out)
      have y0 : w10.cell? ⟨w.heap.size, 0, none⟩ = some (.slice Ascheme u.scheme.length cscheme) := by rw [cell_cells HB10.out 0]; show some x.scheme = _; rw [HES.out]
      have hb58 : Bv (w10.alloc (Obj.cells #[.int .u8 58] 5)) (.slice (some ⟨w10.heap.size, 0, none⟩) 1 1) [58] := bv_lit w10 [58] (by decide) (0, 0)
      have hs10 := sl_three (w10.alloc (Obj.cells #[.int .u8 58] 5)) _ _ _ _ _ _ (HSC.out.le (HL10.out.alloc _)) hb58 (HV10.out.le ((Le.refl w10).alloc _))
      rw [show (w10.alloc (Obj.cells #[.int .u8 58] 5)).heap.size = w10.heap.size + 1 from by simp] at hs10
      have HS10 := Lib.hid hs10
      clear hb58 hs10
      go_wp2_with fail
      refine (joined_c _ _ _ HS10.out (by have := HWL.out; rw [HWH2.out]; omega)).mono ?_
      rintro e w11 ⟨v11, rfl, hown11, hle11⟩
      have HV11 : Hid (Bv w11 v11 (u.scheme ++ 58 :: (u.user ++ 64 :: hostT u.host np))) := Lib.hid (by have hb := hown11.bv (by have := HWL.out; rw [HWH2.out]; omega); rw [HWH2.out] at hb; exact hb)
      have HL11 : Hid (Le w4 w11) := Lib.hid (Le.trans ((HL10.out.alloc _).alloc _) hle11)
      obtain ⟨m11, A11, c11, e11⟩ : ∃ m A c, v11 = .slice A m c := by obtain ⟨A, c, e⟩ := HV11.out.form; exact ⟨_, A, c, e⟩
      subst e11
      clear hown11 hle11 y0 HS10
      go_wp2_with fail
      refine (equal_l w11 _ _ _ _ true (decide_eq_true HEA.out) (HVA.out.le HL11.out) HV11.out).mono ?_
      rintro e w12 ⟨rfl, hle12⟩
      have HL12 : Hid (Le w4 w12) := Lib.hid (Le.trans HL11.out hle12)
      clear hle12
      go_wp2_with fail
      refine (known_c w12 (HL.out.le (Le.trans HL4.out HL12.out))).mono ?_
      rintro e w' ⟨rfl, hle⟩
      have HLX := Lib.hid (Le.trans (Le.trans HL4.out HL12.out) hle)
      clear hle
      go_wp2
      go_ret
      exact ⟨rfl, HLX.out⟩
end Go.Proofs.YteedhaenbamiaaaGreatDoor
