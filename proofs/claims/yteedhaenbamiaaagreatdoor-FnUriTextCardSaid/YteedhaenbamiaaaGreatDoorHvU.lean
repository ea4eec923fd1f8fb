/- Contract: how much there is in a URI (printed by gen_heavy.py). -/
import Derived.Test.YteedhaenbamiaaaGreatDoorHvy
import Derived.Test.YteedhaenbamiaaaGreatDoorGuard
set_option linter.unusedVariables false
set_option linter.unusedSimpArgs false
namespace Go.Proofs.YteedhaenbamiaaaGreatDoor
open Go.RowKit

def HvN (l : KVs) (v : Value) : Prop := ∃ k : Nat, v = .int .i64 (k : Int) ∧ (k ≤ 8192 → hvN l l.length ≤ k) ∧ k ≤ 1125899906842624
def HvT (u : PU) (n0 : Nat) (v : Value) : Prop := ∃ k1 k2 : Nat, v = .int .i64 ((n0 : Int) + (k1 : Int) + (k2 : Int)) ∧ HvN u.ps (.int .i64 (k1 : Int)) ∧ HvN u.hs (.int .i64 (k2 : Int))
/-- what a URI of at most 8192 bytes is -/
structure HvS (u : PU) : Prop where
  scheme : u.scheme.length ≤ 8192
  raw : u.raw.length ≤ 8192
  user : u.user.length ≤ 8192
  pass : u.pass.length ≤ 8192
  host : u.host.length ≤ 8192
  ps : hvN u.ps u.ps.length ≤ 8192
  hs : hvN u.hs u.hs.length ≤ 8192
def HvUPost (u : PU) (w : World) (e : Ending) (w' : World) : Prop := ∃ n : Nat, e = .returned (.int .i64 n) ∧ (n ≤ 8192 → HvS u) ∧ Le w w'
def huS (w : World) (u : PU) (Aps Ahs : Option Addr) (cps chs n0 : Nat) : Nat → Value → World → Prop
  | 1, v, _ => v = (.pointer (some ⟨w.heap.size, 0, none⟩))
  | 2, v, w_ => HvT u n0 v
  | 3, v, _ => v = .int .i64 (n0 : Int)
  | 23, v, _ => v = .int .i64 (n0 : Int)
  | 24, v, _ => v = (.pointer (some ⟨w.heap.size, 8, none⟩))
  | 25, v, _ => v = (.slice Aps u.ps.length cps)
  | 26, v, w_ => HvN u.ps v
  | 27, v, w_ => ∃ k : Nat, v = .int .i64 ((n0 : Int) + (k : Int)) ∧ HvN u.ps (.int .i64 (k : Int))
  | 28, v, _ => v = (.pointer (some ⟨w.heap.size, 9, none⟩))
  | 29, v, _ => v = (.slice Ahs u.hs.length chs)
  | 30, v, w_ => HvN u.hs v
  | 31, v, w_ => HvT u n0 v
  | _, _, _ => True
theorem huS_le (w : World) (u : PU) (Aps Ahs : Option Addr) (cps chs n0 : Nat) (t : Nat) (v : Value) (w1 w2 : World) (k : Le w1 w2) (h : huS w u Aps Ahs cps chs n0 t v w1) : huS w u Aps Ahs cps chs n0 t v w2 := by
  unfold huS at h ⊢
  split at h <;> first | exact h | exact h
set_option maxRecDepth 8000 in
set_option maxHeartbeats 4000000 in
theorem heavyUri_c (w : World) (x : UV) (u : PU) (hx : Uq (fun _ => True) w x u) : Calls Tryz.prog 14 #[x.val] w (HvUPost u w) := by
  have HX := Lib.hid hx
  obtain ⟨Ascheme, cscheme, escheme⟩ := hx.scheme.1.form
  obtain ⟨Araw, craw, eraw⟩ := hx.raw.1.form
  obtain ⟨Auser, cuser, euser⟩ := hx.user.1.form
  obtain ⟨Apass, cpass, epass⟩ := hx.pass.1.form
  obtain ⟨Ahost, chost, ehost⟩ := hx.host.1.form
  obtain ⟨Aps, cps, eps⟩ : ∃ A c, x.ps = .slice A u.ps.length c := by obtain ⟨A, c, e, _⟩ := hx.ps; exact ⟨A, c, e⟩
  obtain ⟨Ahs, chs, ehs⟩ : ∃ A c, x.hs = .slice A u.hs.length c := by obtain ⟨A, c, e, _⟩ := hx.hs; exact ⟨A, c, e⟩
  have bl : ∀ {v : Value} {l : Tx}, Bv w v l → l.length ≤ 140737488355328 := fun h => by obtain ⟨_, _, _, _, _, k⟩ := h; exact k.1
  have b1 := bl hx.scheme.1
  have b2 := bl hx.raw.1
  have b3 := bl hx.user.1
  have b4 := bl hx.pass.1
  have b5 := bl hx.host.1
  have hval : x.val = .agg #[.slice Ascheme u.scheme.length cscheme, .slice Araw u.raw.length craw, .bool x.wild, .bool x.slash, .slice Auser u.user.length cuser, .slice Apass u.pass.length cpass, .slice Ahost u.host.length chost, .int .i64 x.port, .slice Aps u.ps.length cps, .slice Ahs u.hs.length chs] := by
    unfold UV.val; rw [escheme, eraw, euser, epass, ehost, eps, ehs]
  have HKPS : Hid (Kq (fun _ => True) w (.slice Aps u.ps.length cps) u.ps ∧ Kq (fun _ => True) w (.slice Ahs u.hs.length chs) u.hs) := Lib.hid (by
    rw [← eps, ← ehs]
    exact ⟨hx.ps, hx.hs⟩)
  rw [hval]
  clear hval hx escheme eraw euser epass ehost eps ehs bl
  go_enter Tryz.func14, Tryz.ntmps14
  go_upto_region 1 with fail
  have HB0 := Lib.hid (heap_alloc_new w (Obj.cells #[.slice Ascheme u.scheme.length cscheme, .slice Araw u.raw.length craw, .bool x.wild, .bool x.slash, .slice Auser u.user.length cuser, .slice Apass u.pass.length cpass, .slice Ahost u.host.length chost, .int .i64 x.port, .slice Aps u.ps.length cps, .slice Ahs u.hs.length chs] 32))
  have HLE1 : Hid (Le w (w.alloc (Obj.cells #[.slice Ascheme u.scheme.length cscheme, .slice Araw u.raw.length craw, .bool x.wild, .bool x.slash, .slice Auser u.user.length cuser, .slice Apass u.pass.length cpass, .slice Ahost u.host.length chost, .int .i64 x.port, .slice Aps u.ps.length cps, .slice Ahs u.hs.length chs] 32))) := Lib.hid ((Le.refl w).alloc _)
  generalize w.alloc (Obj.cells #[.slice Ascheme u.scheme.length cscheme, .slice Araw u.raw.length craw, .bool x.wild, .bool x.slash, .slice Auser u.user.length cuser, .slice Apass u.pass.length cpass, .slice Ahost u.host.length chost, .int .i64 x.port, .slice Aps u.ps.length cps, .slice Ahs u.hs.length chs] 32) = W1 at HB0 HLE1 ⊢
  generalize Value.agg #[.slice Ascheme u.scheme.length cscheme, .slice Araw u.raw.length craw, .bool x.wild, .bool x.slash, .slice Auser u.user.length cuser, .slice Apass u.pass.length cpass, .slice Ahost u.host.length chost, .int .i64 x.port, .slice Aps u.ps.length cps, .slice Ahs u.hs.length chs] = ag
  have y0 : W1.cell? ⟨w.heap.size, 0, none⟩ = some (.slice Ascheme u.scheme.length cscheme) := cell_cells HB0.out 0
  have y1 : W1.cell? ⟨w.heap.size, 1, none⟩ = some (.slice Araw u.raw.length craw) := cell_cells HB0.out 1
  have y4 : W1.cell? ⟨w.heap.size, 4, none⟩ = some (.slice Auser u.user.length cuser) := cell_cells HB0.out 4
  have y5 : W1.cell? ⟨w.heap.size, 5, none⟩ = some (.slice Apass u.pass.length cpass) := cell_cells HB0.out 5
  have y6 : W1.cell? ⟨w.heap.size, 6, none⟩ = some (.slice Ahost u.host.length chost) := cell_cells HB0.out 6
  have Y8 : Hid (W1.cell? ⟨w.heap.size, 8, none⟩ = some (.slice Aps u.ps.length cps)) := Lib.hid (cell_cells HB0.out 8)
  have Y9 : Hid (W1.cell? ⟨w.heap.size, 9, none⟩ = some (.slice Ahs u.hs.length chs)) := Lib.hid (cell_cells HB0.out 9)
  have HKP := Lib.hid (HKPS.out.1.le HLE1.out)
  have HKH := Lib.hid (HKPS.out.2.le HLE1.out)
  obtain ⟨n0, hn0⟩ : ∃ n0 : Nat, n0 = u.scheme.length + u.raw.length + u.user.length + u.pass.length + u.host.length := ⟨_, rfl⟩
  have HNE := Lib.hid hn0
  have HN0 : Hid (n0 ≤ 1125899906842624) := Lib.hid (by omega)
  have hsum : (u.scheme.length : Int) + (u.raw.length : Int) + (u.user.length : Int) + (u.pass.length : Int) + (u.host.length : Int) = (n0 : Int) := by omega
  clear hn0 HB0
  go_upto_region 2 with fail
  clear hsum y0 y1 y4 y5 y6 b1 b2 b3 b4 b5
  have hm_hu : (Tryz.prog).follows .mixedOrders = true := by kernel_rfl
  refine G2.wp_region_grow_put (huS w u Aps Ahs cps chs n0) (fun _ _ => True) ((Le W1)) 32 [23, 24, 25, 26, 27, 28, 29, 30, 31, 2] hm_hu (by kernel_rfl) rfl rfl ?hG_hu ?hold_hu ?hs_hu ?hend_hu
  case hG_hu => exact (Le.refl W1).drew
  case hold_hu =>
    intro t ht
    simp only [List.mem_cons, List.mem_nil_iff, or_false, not_or] at ht
    unfold huS
    split <;> first | rfl | trivial | (exfalso; simp at ht)
  case hs_hu =>
    refine ⟨?_, ?_, ?_, ?_, ?_, ?_, ?_, ?_, ?_, ?_, trivial⟩
    · refine .free (GrowStep.det ?_) rfl
      intro a W hg hop
      have h3 : a.eval (.tmp 3) = .int .i64 (n0 : Int) := (hop 3 (by simp [Op.operands, Call.operands]))
      have h3' : a.tmps[3]?.getD undef = .int .i64 (n0 : Int) := by simpa [Act.eval] using h3
      refine ⟨.int .i64 (n0 : Int), ?_, rfl⟩
      simp only [execOp, h3]
      go_simp
    · refine .free (GrowStep.det ?_) rfl
      intro a W hg hop
      have h1 : a.eval (.tmp 1) = (.pointer (some ⟨w.heap.size, 0, none⟩)) := (hop 1 (by simp [Op.operands, Call.operands]))
      have h1' : a.tmps[1]?.getD undef = (.pointer (some ⟨w.heap.size, 0, none⟩)) := by simpa [Act.eval] using h1
      refine ⟨(.pointer (some ⟨w.heap.size, 8, none⟩)), ?_, rfl⟩
      simp only [execOp, h1]
      go_simp
    · refine .free (GrowStep.det ?_) rfl
      intro a W hg hop
      have h24 : a.eval (.tmp 24) = (.pointer (some ⟨w.heap.size, 8, none⟩)) := (hop 24 (by simp [Op.operands, Call.operands]))
      have h24' : a.tmps[24]?.getD undef = (.pointer (some ⟨w.heap.size, 8, none⟩)) := by simpa [Act.eval] using h24
      have hc : W.cell? ⟨w.heap.size, 8, none⟩ = some (.slice Aps u.ps.length cps) := hg.cell Y8.out
      refine ⟨(.slice Aps u.ps.length cps), ?_, rfl⟩
      simp only [execOp, h24]
      go_simp
    · refine .free (GrowStep.call ?_ ?_ ?_ ?_) rfl
      · exact fun t v w1 w2 k h => huS_le w u Aps Ahs cps chs n0 t v w1 w2 k h
      · exact fun _ _ _ _ h => h
      · exact fun w1 w2 k h => Le.trans h k
      · intro a W hg hop
        have h25 : a.eval (.tmp 25) = (.slice Aps u.ps.length cps) := (hop 25 (by simp [Op.operands, Call.operands]))
        have h25' : a.tmps[25]?.getD undef = (.slice Aps u.ps.length cps) := by simpa [Act.eval] using h25
        refine ⟨47, #[(.slice Aps u.ps.length cps)], ?_, (heavy_c _ (.slice Aps u.ps.length cps) u.ps W (HKP.out.le hg)).mono ?_⟩
        · simp only [execOp, h25]
          go_simp
        · rintro e w' ⟨n, rfl, h1, h2, hle⟩; exact ⟨_, rfl, hle, n, rfl, h1, h2⟩
    · refine .free (GrowStep.det ?_) rfl
      intro a W hg hop
      have h23 : a.eval (.tmp 23) = .int .i64 (n0 : Int) := (hop 23 (by simp [Op.operands, Call.operands]))
      have h23' : a.tmps[23]?.getD undef = .int .i64 (n0 : Int) := by simpa [Act.eval] using h23
      have h26 : HvN u.ps (a.eval (.tmp 26)) := (hop 26 (by simp [Op.operands, Call.operands]))
      obtain ⟨k6, e6, b1, b2⟩ := h26
      have e6' : a.tmps[26]?.getD undef = .int .i64 (k6 : Int) := by simpa [Act.eval] using e6
      have hn0 := HN0.out
      refine ⟨.int .i64 ((n0 : Int) + (k6 : Int)), ?_, ⟨k6, rfl, k6, rfl, b1, b2⟩⟩
      simp only [execOp, h23, e6]
      go_simp
      exact IntWalk.i64_in _ (by omega)
    · refine .free (GrowStep.det ?_) rfl
      intro a W hg hop
      have h1 : a.eval (.tmp 1) = (.pointer (some ⟨w.heap.size, 0, none⟩)) := (hop 1 (by simp [Op.operands, Call.operands]))
      have h1' : a.tmps[1]?.getD undef = (.pointer (some ⟨w.heap.size, 0, none⟩)) := by simpa [Act.eval] using h1
      refine ⟨(.pointer (some ⟨w.heap.size, 9, none⟩)), ?_, rfl⟩
      simp only [execOp, h1]
      go_simp
    · refine .free (GrowStep.det ?_) rfl
      intro a W hg hop
      have h28 : a.eval (.tmp 28) = (.pointer (some ⟨w.heap.size, 9, none⟩)) := (hop 28 (by simp [Op.operands, Call.operands]))
      have h28' : a.tmps[28]?.getD undef = (.pointer (some ⟨w.heap.size, 9, none⟩)) := by simpa [Act.eval] using h28
      have hc : W.cell? ⟨w.heap.size, 9, none⟩ = some (.slice Ahs u.hs.length chs) := hg.cell Y9.out
      refine ⟨(.slice Ahs u.hs.length chs), ?_, rfl⟩
      simp only [execOp, h28]
      go_simp
    · refine .free (GrowStep.call ?_ ?_ ?_ ?_) rfl
      · exact fun t v w1 w2 k h => huS_le w u Aps Ahs cps chs n0 t v w1 w2 k h
      · exact fun _ _ _ _ h => h
      · exact fun w1 w2 k h => Le.trans h k
      · intro a W hg hop
        have h29 : a.eval (.tmp 29) = (.slice Ahs u.hs.length chs) := (hop 29 (by simp [Op.operands, Call.operands]))
        have h29' : a.tmps[29]?.getD undef = (.slice Ahs u.hs.length chs) := by simpa [Act.eval] using h29
        refine ⟨47, #[(.slice Ahs u.hs.length chs)], ?_, (heavy_c _ (.slice Ahs u.hs.length chs) u.hs W (HKH.out.le hg)).mono ?_⟩
        · simp only [execOp, h29]
          go_simp
        · rintro e w' ⟨n, rfl, h1, h2, hle⟩; exact ⟨_, rfl, hle, n, rfl, h1, h2⟩
    · refine .free (GrowStep.det ?_) rfl
      intro a W hg hop
      have h27 : ∃ k : Nat, (a.eval (.tmp 27)) = .int .i64 ((n0 : Int) + (k : Int)) ∧ HvN u.ps (.int .i64 (k : Int)) := (hop 27 (by simp [Op.operands, Call.operands]))
      have h30 : HvN u.hs (a.eval (.tmp 30)) := (hop 30 (by simp [Op.operands, Call.operands]))
      obtain ⟨k6, e6, k6', ek, b1, b2⟩ := h27
      obtain ⟨k7, e7, b3, b4⟩ := h30
      injection ek with _ ek
      obtain rfl : k6 = k6' := by omega
      have e6' : a.tmps[27]?.getD undef = .int .i64 ((n0 : Int) + (k6 : Int)) := by simpa [Act.eval] using e6
      have e7' : a.tmps[30]?.getD undef = .int .i64 (k7 : Int) := by simpa [Act.eval] using e7
      have hn0 := HN0.out
      refine ⟨.int .i64 ((n0 : Int) + (k6 : Int) + (k7 : Int)), ?_, ⟨k6, k7, rfl, ⟨k6, rfl, b1, b2⟩, ⟨k7, rfl, b3, b4⟩⟩⟩
      simp only [execOp, e6, e7]
      go_simp
      exact IntWalk.i64_in _ (by omega)
    · refine .free (GrowStep.det ?_) rfl
      intro a W hg hop
      have h31 : HvT u n0 (a.eval (.tmp 31)) := (hop 31 (by simp [Op.operands, Call.operands]))
      obtain ⟨k6, k7, e6, b1, b2⟩ := h31
      have e6' : a.tmps[31]?.getD undef = .int .i64 ((n0 : Int) + (k6 : Int) + (k7 : Int)) := by simpa [Act.eval] using e6
      refine ⟨.int .i64 ((n0 : Int) + (k6 : Int) + (k7 : Int)), ?_, ⟨k6, k7, rfl, b1, b2⟩⟩
      simp only [execOp, e6]
      go_simp
  case hend_hu =>
    intro s_ wz hg hS hZ
    obtain ⟨k6, k7, e2, ⟨k6', f6, b1, b2⟩, ⟨k7', f7, b3, b4⟩⟩ : HvT u n0 (s_ 2) := hS 2 (by decide)
    injection f6 with _ f6
    injection f7 with _ f7
    obtain rfl : k6 = k6' := by omega
    obtain rfl : k7 = k7' := by omega
    have HLZ := Lib.hid (show Le W1 wz from hg)
    have HB := Lib.hid (⟨b1, b3, b2, b4⟩ : _ ∧ _ ∧ _ ∧ _)
    clear hS hZ hg f6 f7 b1 b2 b3 b4
    simp only [putsL, Act.put, List.setIfInBounds_toArray, List.set_cons_zero, List.set_cons_succ]
    rw [e2]
    go_wp2
    go_ret
    refine ⟨n0 + k6 + k7, by push_cast; rfl, fun hle => ?_, HLE1.out.trans HLZ.out⟩
    have h1 := HB.out.1 (by omega)
    have h2 := HB.out.2.1 (by omega)
    have h0 := HNE.out
    exact ⟨by omega, by omega, by omega, by omega, by omega, by omega, by omega⟩
end Go.Proofs.YteedhaenbamiaaaGreatDoor
