/- Contract: the specification's UriParts (printed by gen_sup.py). -/
import Derived.Test.YteedhaenbamiaaaGreatDoorSPl
import Derived.Test.YteedhaenbamiaaaGreatDoorApn
set_option linter.unusedVariables false
set_option linter.unusedSimpArgs false
namespace Go.Proofs.YteedhaenbamiaaaGreatDoor
open Go.RowKit

def SlV (v : Value) : Prop := ∃ n A c, v = .slice A n c
theorem SlV.nil : SlV (.slice none 0 0) := ⟨_, _, _, rfl⟩
/-- the parts, where they are told -/
structure SPTold (u : PU) (w : World) (a b c : Value) (s : Bool) : Prop where
  pln : Pln u
  user : u.user ≠ []
  pass : u.pass = []
  raw : u.raw = []
  a : Bv w a (u.scheme ++ [58] ++ (u.user ++ 64 :: hostS u.host u.port))
  b : Bv w b (u.user ++ 64 :: hostS u.host u.port)
  c : Bv w c (u.host ++ 58 :: Lib.decDigits u.port.toNat)
  s : s = decide (u.scheme = sSips)
def SPPost (u : PU) (w : World) (e : Ending) (w' : World) : Prop :=
  ∃ a b c s k, e = .returned (.tuple #[a, b, c, .bool s, .int .i64 k]) ∧ SlV a ∧ SlV b ∧ SlV c ∧ Le w w' ∧ (k = -2 ∨ (k = 0 ∧ SPTold u w' a b c s))
def sp3S (b base : Nat) (v1 : Value) (A X : Tx) (pv : Nat → Value) : Nat → Value → World → Prop
  | 1, v, _ => v = .pointer (some ⟨b, 0, none⟩)
  | 30, v, _ => v = .pointer (some ⟨b, 4, none⟩)
  | 31, v, _ => v = v1
  | 32, v, w => OwnB base w v A
  | 33, v, w => OwnB base w v [64]
  | 34, v, w => OwnB base w v (A ++ [64])
  | 35, v, _ => v = .pointer (some ⟨b, 6, none⟩)
  | 36, v, _ => v = pv 36
  | 37, v, _ => v = .pointer (some ⟨b, 7, none⟩)
  | 38, v, _ => v = pv 38
  | 39, v, w => OwnB base w v X
  | _, _, _ => True
theorem sp3S_le (b base : Nat) (v1 : Value) (A X : Tx) (pv : Nat → Value) (t : Nat) (v : Value) (w w' : World) (k : Le w w') (h : sp3S b base v1 A X pv t v w) : sp3S b base v1 A X pv t v w' := by
  unfold sp3S at h ⊢
  split at h <;> first | exact h | exact OwnB.le h k
def sp4S (b base : Nat) (v1 : Value) (A X : Tx) (pv : Nat → Value) : Nat → Value → World → Prop
  | 1, v, _ => v = .pointer (some ⟨b, 0, none⟩)
  | 41, v, _ => v = .pointer (some ⟨b, 6, none⟩)
  | 42, v, _ => v = v1
  | 43, v, w => OwnB base w v A
  | 44, v, w => OwnB base w v [58]
  | 45, v, w => OwnB base w v (A ++ [58])
  | 46, v, _ => v = .pointer (some ⟨b, 7, none⟩)
  | 47, v, _ => v = pv 47
  | 48, v, w => OwnB base w v X
  | _, _, _ => True
theorem sp4S_le (b base : Nat) (v1 : Value) (A X : Tx) (pv : Nat → Value) (t : Nat) (v : Value) (w w' : World) (k : Le w w') (h : sp4S b base v1 A X pv t v w) : sp4S b base v1 A X pv t v w' := by
  unfold sp4S at h ⊢
  split at h <;> first | exact h | exact OwnB.le h k
def sp5S (b base : Nat) (v1 v7 v8 : Value) (A T : Tx) (sb : Bool) : Nat → Value → World → Prop
  | 1, v, _ => v = .pointer (some ⟨b, 0, none⟩)
  | 7, v, _ => v = v7
  | 8, v, _ => v = v8
  | 50, v, _ => v = .pointer (some ⟨b, 0, none⟩)
  | 51, v, _ => v = v1
  | 52, v, w => OwnB base w v A
  | 53, v, w => Bv w v [58]
  | 54, v, w => OwnB base w v (A ++ [58])
  | 55, v, _ => v = v7
  | 56, v, w => Bv w v (A ++ [58] ++ T)
  | 57, v, _ => v = v7
  | 58, v, _ => v = v8
  | 59, v, _ => v = .pointer (some ⟨b, 0, none⟩)
  | 60, v, _ => v = v1
  | 61, v, w => SipsAt base w v
  | 62, v, w => SipsAt base w v
  | 63, v, _ => v = .bool sb
  | 2, v, w => Bv w v (A ++ [58] ++ T)
  | 3, v, _ => v = v7
  | 4, v, _ => v = v8
  | 5, v, _ => v = .bool sb
  | 6, v, _ => v = .int .i64 0
  | _, _, _ => True
theorem sp5S_le (b base : Nat) (v1 v7 v8 : Value) (A T : Tx) (sb : Bool) (t : Nat) (v : Value) (w w' : World) (k : Le w w') (h : sp5S b base v1 v7 v8 A T sb t v w) : sp5S b base v1 v7 v8 A T sb t v w' := by
  unfold sp5S at h ⊢
  split at h <;> first | exact h | exact OwnB.le h k | exact Bv.le h k | exact SipsAt.le h k
set_option maxRecDepth 8000 in
set_option maxHeartbeats 8000000 in
theorem sUriParts_c (w : World) (x : UV) (u : PU) (hx : Uq (fun _ => True) w x u) (hz : SzS u) :
    Calls Tryz.prog 17 #[x.val] w (SPPost u w) := by
  have HX := Lib.hid hx
  have HZ := Lib.hid hz
  obtain ⟨Ascheme, cscheme, escheme⟩ := hx.scheme.1.form
  obtain ⟨Araw, craw, eraw⟩ := hx.raw.1.form
  obtain ⟨Auser, cuser, euser⟩ := hx.user.1.form
  obtain ⟨Apass, cpass, epass⟩ := hx.pass.1.form
  obtain ⟨Ahost, chost, ehost⟩ := hx.host.1.form
  obtain ⟨Aps, cps, eps⟩ : ∃ A c, x.ps = .slice A u.ps.length c := by obtain ⟨A, c, e, _⟩ := hx.ps; exact ⟨A, c, e⟩
  obtain ⟨Ahs, chs, ehs⟩ : ∃ A c, x.hs = .slice A u.hs.length c := by obtain ⟨A, c, e, _⟩ := hx.hs; exact ⟨A, c, e⟩
  have hval : x.val = .agg #[.slice Ascheme u.scheme.length cscheme, .slice Araw u.raw.length craw, .bool x.wild, .bool x.slash, .slice Auser u.user.length cuser, .slice Apass u.pass.length cpass, .slice Ahost u.host.length chost, .int .i64 x.port, .slice Aps u.ps.length cps, .slice Ahs u.hs.length chs] := by
    unfold UV.val; rw [escheme, eraw, euser, epass, ehost, eps, ehs]
  have HFs : Hid (Bv w (.slice Ascheme u.scheme.length cscheme) u.scheme) := Lib.hid (by rw [← escheme]; exact hx.scheme.1)
  have HFu : Hid (Bv w (.slice Auser u.user.length cuser) u.user) := Lib.hid (by rw [← euser]; exact hx.user.1)
  have HFh : Hid (Bv w (.slice Ahost u.host.length chost) u.host) := Lib.hid (by rw [← ehost]; exact hx.host.1)
  have HPLC : Hid (∀ W, Le w W → Calls Tryz.prog 15 #[.agg #[.slice Ascheme u.scheme.length cscheme, .slice Araw u.raw.length craw, .bool x.wild, .bool x.slash, .slice Auser u.user.length cuser, .slice Apass u.pass.length cpass, .slice Ahost u.host.length chost, .int .i64 x.port, .slice Aps u.ps.length cps, .slice Ahs u.hs.length chs]] W (PlnPost u W)) := Lib.hid (fun W k => by rw [← hval]; exact sIsPlain_c W x u (hx.le k) hz)
  have HPT : Hid (x.port = u.port) := Lib.hid hx.port
  rw [hval]
  clear hval hx escheme eraw euser epass ehost eps ehs hz HX
  go_enter Tryz.func17, Tryz.ntmps17
  go_upto_region 1 with fail
  have HB0 := Lib.hid (heap_alloc_new w (Obj.cells #[.slice Ascheme u.scheme.length cscheme, .slice Araw u.raw.length craw, .bool x.wild, .bool x.slash, .slice Auser u.user.length cuser, .slice Apass u.pass.length cpass, .slice Ahost u.host.length chost, .int .i64 x.port, .slice Aps u.ps.length cps, .slice Ahs u.hs.length chs] 36))
  have HL0 : Hid (Le w (w.alloc (Obj.cells #[.slice Ascheme u.scheme.length cscheme, .slice Araw u.raw.length craw, .bool x.wild, .bool x.slash, .slice Auser u.user.length cuser, .slice Apass u.pass.length cpass, .slice Ahost u.host.length chost, .int .i64 x.port, .slice Aps u.ps.length cps, .slice Ahs u.hs.length chs] 36))) := Lib.hid ((Le.refl w).alloc _)
  generalize w.alloc (Obj.cells #[.slice Ascheme u.scheme.length cscheme, .slice Araw u.raw.length craw, .bool x.wild, .bool x.slash, .slice Auser u.user.length cuser, .slice Apass u.pass.length cpass, .slice Ahost u.host.length chost, .int .i64 x.port, .slice Aps u.ps.length cps, .slice Ahs u.hs.length chs] 36) = W0 at HB0 HL0 ⊢
  generalize Value.agg #[.slice Ascheme u.scheme.length cscheme, .slice Araw u.raw.length craw, .bool x.wild, .bool x.slash, .slice Auser u.user.length cuser, .slice Apass u.pass.length cpass, .slice Ahost u.host.length chost, .int .i64 x.port, .slice Aps u.ps.length cps, .slice Ahs u.hs.length chs] = ag
  have HBX : Hid (∀ wr, Le W0 wr → wr.cell? ⟨w.heap.size, 0, none⟩ = some (.slice Ascheme u.scheme.length cscheme) ∧ wr.cell? ⟨w.heap.size, 1, none⟩ = some (.slice Araw u.raw.length craw) ∧ wr.cell? ⟨w.heap.size, 4, none⟩ = some (.slice Auser u.user.length cuser) ∧ wr.cell? ⟨w.heap.size, 5, none⟩ = some (.slice Apass u.pass.length cpass) ∧ wr.cell? ⟨w.heap.size, 6, none⟩ = some (.slice Ahost u.host.length chost) ∧ wr.cell? ⟨w.heap.size, 7, none⟩ = some (.int .i64 u.port)) := Lib.hid (fun wr h => by
    have hb := h.heap HB0.out
    rw [HPT.out] at hb
    exact ⟨cell_cells hb 0, cell_cells hb 1, cell_cells hb 4, cell_cells hb 5, cell_cells hb 6, cell_cells hb 7⟩)
  have y0 : W0.cell? ⟨w.heap.size, 0, none⟩ = some (.slice Ascheme u.scheme.length cscheme) := cell_cells HB0.out 0
  have y1 : W0.cell? ⟨w.heap.size, 1, none⟩ = some (.slice Araw u.raw.length craw) := cell_cells HB0.out 1
  have y2 : W0.cell? ⟨w.heap.size, 2, none⟩ = some (.bool x.wild) := cell_cells HB0.out 2
  have y3 : W0.cell? ⟨w.heap.size, 3, none⟩ = some (.bool x.slash) := cell_cells HB0.out 3
  have y4 : W0.cell? ⟨w.heap.size, 4, none⟩ = some (.slice Auser u.user.length cuser) := cell_cells HB0.out 4
  have y5 : W0.cell? ⟨w.heap.size, 5, none⟩ = some (.slice Apass u.pass.length cpass) := cell_cells HB0.out 5
  have y6 : W0.cell? ⟨w.heap.size, 6, none⟩ = some (.slice Ahost u.host.length chost) := cell_cells HB0.out 6
  have y7 : W0.cell? ⟨w.heap.size, 7, none⟩ = some (.int .i64 x.port) := cell_cells HB0.out 7
  have y8 : W0.cell? ⟨w.heap.size, 8, none⟩ = some (.slice Aps u.ps.length cps) := cell_cells HB0.out 8
  have y9 : W0.cell? ⟨w.heap.size, 9, none⟩ = some (.slice Ahs u.hs.length chs) := cell_cells HB0.out 9
  by_cases hu0 : u.user = []
  · have hu : ((u.user.length : Int) == 0) = true := by rw [hu0]; rfl
    clear hu0
    go_wp2
    go_returns
    exact ⟨_, _, _, _, _, rfl, SlV.nil, SlV.nil, SlV.nil, HL0.out, .inl rfl⟩
  have HU0 := Lib.hid hu0
  have hu : ((u.user.length : Int) == 0) = false := by
    have := List.length_pos_iff.2 hu0
    rw [beq_eq_false_iff_ne]; omega
  by_cases hp0 : u.pass = []
  case neg =>
    have hp : decide (0 < u.pass.length) = true := decide_eq_true (List.length_pos_iff.2 hp0)
    have hp' : 0 < u.pass.length := List.length_pos_iff.2 hp0
    clear hu0 hp0
    go_wp2
    go_returns
    exact ⟨_, _, _, _, _, rfl, SlV.nil, SlV.nil, SlV.nil, HL0.out, .inl rfl⟩
  have HP0 := Lib.hid hp0
  have hp : u.pass.length = 0 := by rw [hp0]; rfl
  by_cases hr0 : u.raw = []
  case neg =>
    have hr : decide (0 < u.raw.length) = true := decide_eq_true (List.length_pos_iff.2 hr0)
    have hr' : 0 < u.raw.length := List.length_pos_iff.2 hr0
    clear hu0 hp0 hr0
    go_wp2
    go_returns
    exact ⟨_, _, _, _, _, rfl, SlV.nil, SlV.nil, SlV.nil, HL0.out, .inl rfl⟩
  have HR0 := Lib.hid hr0
  have hr : u.raw.length = 0 := by rw [hr0]; rfl
  have HPC := Lib.hid (HPLC.out W0 HL0.out)
  rw [hp, hr] at HPC
  rw [hp] at y5
  rw [hr] at y1
  clear hu0 hp0 hr0
  go_wp2_with fail
  refine HPC.out.mono ?_
  rintro e W1 ⟨bp, rfl, hpl, hle1⟩
  have HL1 := Lib.hid hle1
  have HL01 := Lib.hid (HL0.out.trans hle1)
  have HPL := Lib.hid hpl
  clear hle1 hpl y0 y1 y2 y3 y4 y5 y6 y7 y8 y9
  cases bp
  · go_wp2
    go_returns
    exact ⟨_, _, _, _, _, rfl, SlV.nil, SlV.nil, SlV.nil, HL01.out, .inl rfl⟩
  have HPLN := Lib.hid (HPL.out rfl)
  clear HPL hu hp hr
  obtain ⟨np, hnp⟩ : ∃ np : Nat, u.port = (np : Int) ∧ np ≤ 65535 := by
    rcases pln_cases HPLN.out with ⟨_, h⟩ | h
    · exact absurd HR0.out h.1
    · exact ⟨u.port.toNat, by have := h.lo; omega, by have := h.hi; omega⟩
  have HNP := Lib.hid hnp
  clear hnp
  have HLA : Hid (u.user.length ≤ 65536 ∧ (hostS u.host u.port).length ≤ 1000000 ∧ u.host.length ≤ 65536 ∧ (Lib.decDigits np).length ≤ 100) := Lib.hid ⟨HZ.out.user, hostS_len HZ.out.host HZ.out.hi, HZ.out.host, by
    have h := Lib.itoa_length_le (np : Int) (by omega) (by have := HNP.out.2; omega)
    rw [Lib.itoa_nonneg] at h
    omega⟩
  have HLr : Hid (Le W1 W1) := Lib.hid (Le.refl W1)
  go_upto_region 3 with fail
  have hm3 : (Tryz.prog).follows .mixedOrders = true := by kernel_rfl
  refine G4.wp_region_grow_tail (sp3S w.heap.size W1.heap.size (.slice Auser u.user.length cuser) (u.user) (hostS u.host u.port) (fun n => if n = 36 then (.slice Ahost u.host.length chost) else .int .i64 u.port)) (A3G W1 32 34 33 39) 64 10 [30, 31, 32, 33, 34, 35, 36, 37, 38, 39] hm3 (by kernel_rfl) rfl rfl ⟨HLr.out.drew, Lt.und _, Lt.und _, Lt.und _, Lt.und _, Ap.und _, Ap.und _, Ap.und _⟩ ?hold3 ?hs3 ?hend3
  case hold3 =>
    intro t ht
    simp only [List.mem_cons, List.mem_nil_iff, or_false, not_or] at ht
    unfold sp3S
    split <;> first | rfl | trivial | (exfalso; simp at ht)
  case hs3 =>
    simp only [List.take_succ_cons, List.take_zero]
    refine ⟨?_, ?_, ?_, ?_, ?_, ?_, ?_, ?_, ?_, ?_, trivial⟩
    · refine G4.det ?_ (fun a w v h => A3G.put h (by decide) (by decide) (by decide) (by decide))
      intro a W hg hop
      have h1 : a.eval (.tmp 1) = (.pointer (some ⟨w.heap.size, 0, none⟩)) := (hop 1 (by simp [Op.operands, Call.operands]))
      refine ⟨(.pointer (some ⟨w.heap.size, 4, none⟩)), ?_, rfl⟩
      simp only [execOp, h1]
      go_simp
    · refine G4.det ?_ (fun a w v h => A3G.put h (by decide) (by decide) (by decide) (by decide))
      intro a W hg hop
      have h1 : a.eval (.tmp 30) = (.pointer (some ⟨w.heap.size, 4, none⟩)) := (hop 30 (by simp [Op.operands, Call.operands]))
      have h2 : W.cell? ⟨w.heap.size, 4, none⟩ = some (.slice Auser u.user.length cuser) := (HBX.out W (HL1.out.trans hg.le)).2.2.1
      refine ⟨.slice Auser u.user.length cuser, ?_, rfl⟩
      simp only [execOp, h1]
      go_simp
    · refine G4.append (.const (.slice none 0 0)) (.tmp 31) 22 rfl ?_
      intro a W hz hu hg hop
      have h1 : a.eval (.tmp 31) = (.slice Auser u.user.length cuser) := (hop 31 (by simp [Op.operands, Call.operands]))
      have h2 : Bv W (a.eval (.tmp 31)) (u.user) := by rw [h1]; exact HFu.out.le (HL01.out.trans hg.le)
      obtain ⟨v', w', q, k1, hle⟩ := run_append_none h2 22
      refine ⟨v', w', q, ?_, fun t _ h => sp3S_le _ _ _ _ _ _ t _ _ _ hle h, k1.base hg.le.size⟩
      have hs := hg.setx hle k1.fr k1.frz
      unfold A3G
      rw [eval_put_same _ (by rw [hz]; decide), eval_put_ne _ (by simp), eval_put_ne _ (by simp), eval_put_ne _ (by simp)]
      exact hs
    · refine G4.run ?_
      intro a W hz hu hg hop
      have hle : Le W (W.alloc (Obj.cells #[.int .u8 64] 5)) := (Le.refl W).alloc _
      have k1 : OwnB W.heap.size (W.alloc (Obj.cells #[.int .u8 64] 5)) (.slice (some ⟨W.heap.size, 0, none⟩) 1 1) [64] := ownb_one W _ 64 rfl
      refine ⟨.slice (some ⟨W.heap.size, 0, none⟩) 1 1, W.alloc (Obj.cells #[.int .u8 64] 5), ?_, ?_, fun t _ h => sp3S_le _ _ _ _ _ _ t _ _ _ hle h, k1.base hg.le.size⟩
      · simp only [execOp]
        go_simp
      · have hs := hg.setz hle k1.fr k1.frz
        unfold A3G
        rw [eval_put_ne _ (by simp), eval_put_ne _ (by simp), eval_put_same _ (by rw [hz]; decide), eval_put_ne _ (by simp)]
        exact hs
    · refine G4.append (.tmp 32) (.tmp 33) 22 rfl ?_
      intro a W hz hu hg hop
      have h1 : OwnB W1.heap.size W (a.eval (.tmp 32)) (u.user) := (hop 32 (by simp [Op.operands, Call.operands]))
      have h2 : OwnB W1.heap.size W (a.eval (.tmp 33)) [64] := (hop 33 (by simp [Op.operands, Call.operands]))
      obtain ⟨v', w', q, k1, k2, k3, k4⟩ := run_append_side h1 (h2.bv (by decide)) (by have := HLA.out.1; simp only [List.length_cons, List.length_nil]; omega) hg.le.size 22
      have kle : Le W1 w' := Below.grown' hg.le k2 (Nat.le_refl _) (fun g hh => (own_row' h1 g hh).1)
      refine ⟨v', w', q, ?_, fun t ht h => ?_, k1⟩
      · have hs := hg.sety kle k2 k4 k1.frz
        unfold A3G
        rw [eval_put_ne _ (by simp), eval_put_same _ (by rw [hz]; decide), eval_put_ne _ (by simp), eval_put_ne _ (by simp)]
        exact hs
      · unfold sp3S at h ⊢
        split at h <;> first | exact h | exact k3 | exact OwnB.apart h k2 hg.xz | exact OwnB.apart h k2 hg.xt | exact absurd rfl ht
    · refine G4.det ?_ (fun a w v h => A3G.put h (by decide) (by decide) (by decide) (by decide))
      intro a W hg hop
      have h1 : a.eval (.tmp 1) = (.pointer (some ⟨w.heap.size, 0, none⟩)) := (hop 1 (by simp [Op.operands, Call.operands]))
      refine ⟨(.pointer (some ⟨w.heap.size, 6, none⟩)), ?_, rfl⟩
      simp only [execOp, h1]
      go_simp
    · refine G4.det ?_ (fun a w v h => A3G.put h (by decide) (by decide) (by decide) (by decide))
      intro a W hg hop
      have h1 : a.eval (.tmp 35) = (.pointer (some ⟨w.heap.size, 6, none⟩)) := (hop 35 (by simp [Op.operands, Call.operands]))
      have h2 : W.cell? ⟨w.heap.size, 6, none⟩ = some ((.slice Ahost u.host.length chost)) := (HBX.out W (HL1.out.trans hg.le)).2.2.2.2.1
      refine ⟨(.slice Ahost u.host.length chost), ?_, rfl⟩
      simp only [execOp, h1]
      go_simp
    · refine G4.det ?_ (fun a w v h => A3G.put h (by decide) (by decide) (by decide) (by decide))
      intro a W hg hop
      have h1 : a.eval (.tmp 1) = (.pointer (some ⟨w.heap.size, 0, none⟩)) := (hop 1 (by simp [Op.operands, Call.operands]))
      refine ⟨(.pointer (some ⟨w.heap.size, 7, none⟩)), ?_, rfl⟩
      simp only [execOp, h1]
      go_simp
    · refine G4.det ?_ (fun a w v h => A3G.put h (by decide) (by decide) (by decide) (by decide))
      intro a W hg hop
      have h1 : a.eval (.tmp 37) = (.pointer (some ⟨w.heap.size, 7, none⟩)) := (hop 37 (by simp [Op.operands, Call.operands]))
      have h2 : W.cell? ⟨w.heap.size, 7, none⟩ = some (.int .i64 u.port) := (HBX.out W (HL1.out.trans hg.le)).2.2.2.2.2
      refine ⟨.int .i64 u.port, ?_, rfl⟩
      simp only [execOp, h1]
      go_simp
    · refine G4.call ?_
      intro a W hz hu hg hop
      have h36 : a.eval (.tmp 36) = ((.slice Ahost u.host.length chost)) := (hop 36 (by simp [Op.operands, Call.operands]))
      have h36' : a.tmps[36]?.getD undef = ((.slice Ahost u.host.length chost)) := by simpa [Act.eval] using h36
      have h38 : a.eval (.tmp 38) = (.int .i64 u.port) := (hop 38 (by simp [Op.operands, Call.operands]))
      have h38' : a.tmps[38]?.getD undef = (.int .i64 u.port) := by simpa [Act.eval] using h38
      refine ⟨55, #[(.slice Ahost u.host.length chost), .int .i64 u.port], ?_, (sHost_c W (.slice Ahost u.host.length chost) u.host u.port (HFh.out.le (HL01.out.trans hg.le)) (by have := HZ.out.host; omega) HZ.out.hi).mono ?_⟩
      · clear hz hu
        simp only [execOp, h36, h38]
        go_simp
      · rintro e w' ⟨v', rfl, hown, hle⟩
        refine ⟨_, rfl, ?_, fun t _ h => sp3S_le _ _ _ _ _ _ t _ _ _ hle h, hown.base hg.le.size⟩
        have hs := hg.sett hle hown.fr hown.frz
        unfold A3G
        rw [eval_put_ne _ (by simp), eval_put_ne _ (by simp), eval_put_ne _ (by simp), eval_put_same _ (by rw [hz]; decide)]
        exact hs
  intro v wz hg hS
  have s2 : OwnB W1.heap.size wz (v 34) (u.user ++ [64]) := hS 34 (by decide)
  have s5 : OwnB W1.heap.size wz (v 39) (hostS u.host u.port) := hS 39 (by decide)
  obtain ⟨n2, A2, c2, es2⟩ := s2.shape
  obtain ⟨n5, A5, c5, es5⟩ := s5.shape
  rw [es2] at s2
  rw [es5] at s5
  have HS2 := Lib.hid s2
  have HS5 := Lib.hid (s5.bv (by have := HLA.out.2.1; omega))
  have HLZ : Hid (Le W1 wz) := Lib.hid hg.le
  have HLEN : Hid ((u.user ++ [64]).length + (hostS u.host u.port).length ≤ 140737488355328) := Lib.hid (by have := HLA.out.1; have := HLA.out.2.1; simp only [List.length_append, List.length_cons, List.length_nil]; omega)
  clear hS hg s2 s5
  simp only [putsL, Act.put, List.setIfInBounds_toArray, List.set_cons_zero, List.set_cons_succ, List.drop_succ_cons, List.drop_zero]
  rw [es2]
  rw [es5]
  clear es2 es5
  go_wp2_with (at_builtin; refine wpList_append_bv rfl (.tmp 34) (.tmp 39) rfl (base := W1.heap.size) rfl rfl HS2.out HS5.out HLEN.out HLZ.out.size ?_)
  intro vz3 wz3 hownz hgrowz
  have HOZ3 := Lib.hid hownz
  have HLZ3 : Hid (Le W1 wz3) := Lib.hid (Below.grown' HLZ.out hgrowz (Nat.le_refl _) (fun g hg => (own_row' HS2.out g hg).1))
  clear hownz hgrowz
  obtain ⟨n7, A7, c7, rfl⟩ := HOZ3.out.shape
  have HLr4 : Hid (Le wz3 wz3) := Lib.hid (Le.refl wz3)
  go_upto_region 4 with fail
  have hm4 : (Tryz.prog).follows .mixedOrders = true := by kernel_rfl
  refine G4.wp_region_grow_tail (sp4S w.heap.size wz3.heap.size (.slice Ahost u.host.length chost) (u.host) (Lib.decDigits np) (fun _ => .int .i64 (np : Int))) (A3G wz3 43 45 44 48) 64 8 [41, 42, 43, 44, 45, 46, 47, 48] hm4 (by kernel_rfl) rfl rfl ⟨HLr4.out.drew, Lt.und _, Lt.und _, Lt.und _, Lt.und _, Ap.und _, Ap.und _, Ap.und _⟩ ?hold4 ?hs4 ?hend4
  case hold4 =>
    intro t ht
    simp only [List.mem_cons, List.mem_nil_iff, or_false, not_or] at ht
    unfold sp4S
    split <;> first | rfl | trivial | (exfalso; simp at ht)
  case hs4 =>
    simp only [List.take_succ_cons, List.take_zero]
    refine ⟨?_, ?_, ?_, ?_, ?_, ?_, ?_, ?_, trivial⟩
    · refine G4.det ?_ (fun a w v h => A3G.put h (by decide) (by decide) (by decide) (by decide))
      intro a W hg hop
      have h1 : a.eval (.tmp 1) = (.pointer (some ⟨w.heap.size, 0, none⟩)) := (hop 1 (by simp [Op.operands, Call.operands]))
      refine ⟨(.pointer (some ⟨w.heap.size, 6, none⟩)), ?_, rfl⟩
      simp only [execOp, h1]
      go_simp
    · refine G4.det ?_ (fun a w v h => A3G.put h (by decide) (by decide) (by decide) (by decide))
      intro a W hg hop
      have h1 : a.eval (.tmp 41) = (.pointer (some ⟨w.heap.size, 6, none⟩)) := (hop 41 (by simp [Op.operands, Call.operands]))
      have h2 : W.cell? ⟨w.heap.size, 6, none⟩ = some (.slice Ahost u.host.length chost) := (HBX.out W (HL1.out.trans (HLZ3.out.trans hg.le))).2.2.2.2.1
      refine ⟨.slice Ahost u.host.length chost, ?_, rfl⟩
      simp only [execOp, h1]
      go_simp
    · refine G4.append (.const (.slice none 0 0)) (.tmp 42) 22 rfl ?_
      intro a W hz hu hg hop
      have h1 : a.eval (.tmp 42) = (.slice Ahost u.host.length chost) := (hop 42 (by simp [Op.operands, Call.operands]))
      have h2 : Bv W (a.eval (.tmp 42)) (u.host) := by rw [h1]; exact HFh.out.le (HL01.out.trans (HLZ3.out.trans hg.le))
      obtain ⟨v', w', q, k1, hle⟩ := run_append_none h2 22
      refine ⟨v', w', q, ?_, fun t _ h => sp4S_le _ _ _ _ _ _ t _ _ _ hle h, k1.base hg.le.size⟩
      have hs := hg.setx hle k1.fr k1.frz
      unfold A3G
      rw [eval_put_same _ (by rw [hz]; decide), eval_put_ne _ (by simp), eval_put_ne _ (by simp), eval_put_ne _ (by simp)]
      exact hs
    · refine G4.run ?_
      intro a W hz hu hg hop
      have hle : Le W (W.alloc (Obj.cells #[.int .u8 58] 5)) := (Le.refl W).alloc _
      have k1 : OwnB W.heap.size (W.alloc (Obj.cells #[.int .u8 58] 5)) (.slice (some ⟨W.heap.size, 0, none⟩) 1 1) [58] := ownb_one W _ 58 rfl
      refine ⟨.slice (some ⟨W.heap.size, 0, none⟩) 1 1, W.alloc (Obj.cells #[.int .u8 58] 5), ?_, ?_, fun t _ h => sp4S_le _ _ _ _ _ _ t _ _ _ hle h, k1.base hg.le.size⟩
      · simp only [execOp]
        go_simp
      · have hs := hg.setz hle k1.fr k1.frz
        unfold A3G
        rw [eval_put_ne _ (by simp), eval_put_ne _ (by simp), eval_put_same _ (by rw [hz]; decide), eval_put_ne _ (by simp)]
        exact hs
    · refine G4.append (.tmp 43) (.tmp 44) 22 rfl ?_
      intro a W hz hu hg hop
      have h1 : OwnB wz3.heap.size W (a.eval (.tmp 43)) (u.host) := (hop 43 (by simp [Op.operands, Call.operands]))
      have h2 : OwnB wz3.heap.size W (a.eval (.tmp 44)) [58] := (hop 44 (by simp [Op.operands, Call.operands]))
      obtain ⟨v', w', q, k1, k2, k3, k4⟩ := run_append_side h1 (h2.bv (by decide)) (by have := HLA.out.2.2.1; simp only [List.length_cons, List.length_nil]; omega) hg.le.size 22
      have kle : Le wz3 w' := Below.grown' hg.le k2 (Nat.le_refl _) (fun g hh => (own_row' h1 g hh).1)
      refine ⟨v', w', q, ?_, fun t ht h => ?_, k1⟩
      · have hs := hg.sety kle k2 k4 k1.frz
        unfold A3G
        rw [eval_put_ne _ (by simp), eval_put_same _ (by rw [hz]; decide), eval_put_ne _ (by simp), eval_put_ne _ (by simp)]
        exact hs
      · unfold sp4S at h ⊢
        split at h <;> first | exact h | exact k3 | exact OwnB.apart h k2 hg.xz | exact OwnB.apart h k2 hg.xt | exact absurd rfl ht
    · refine G4.det ?_ (fun a w v h => A3G.put h (by decide) (by decide) (by decide) (by decide))
      intro a W hg hop
      have h1 : a.eval (.tmp 1) = (.pointer (some ⟨w.heap.size, 0, none⟩)) := (hop 1 (by simp [Op.operands, Call.operands]))
      refine ⟨(.pointer (some ⟨w.heap.size, 7, none⟩)), ?_, rfl⟩
      simp only [execOp, h1]
      go_simp
    · refine G4.det ?_ (fun a w v h => A3G.put h (by decide) (by decide) (by decide) (by decide))
      intro a W hg hop
      have h1 : a.eval (.tmp 46) = (.pointer (some ⟨w.heap.size, 7, none⟩)) := (hop 46 (by simp [Op.operands, Call.operands]))
      have h2 : W.cell? ⟨w.heap.size, 7, none⟩ = some (.int .i64 (np : Int)) := by have h := (HBX.out W (HL1.out.trans (HLZ3.out.trans hg.le))).2.2.2.2.2; rw [HNP.out.1] at h; exact h
      refine ⟨.int .i64 (np : Int), ?_, rfl⟩
      simp only [execOp, h1]
      go_simp
    · refine G4.call ?_
      intro a W hz hu hg hop
      have h47 : a.eval (.tmp 47) = (.int .i64 (np : Int)) := (hop 47 (by simp [Op.operands, Call.operands]))
      have h47' : a.tmps[47]?.getD undef = (.int .i64 (np : Int)) := by simpa [Act.eval] using h47
      refine ⟨56, #[.int .i64 (np : Int)], ?_, (sDec_c np W (by have := HNP.out.2; omega)).mono ?_⟩
      · clear hz hu
        simp only [execOp, h47]
        go_simp
      · rintro e w' ⟨v', rfl, hown, hl, hle⟩
        refine ⟨_, rfl, ?_, fun t _ h => sp4S_le _ _ _ _ _ _ t _ _ _ hle h, hown.base hg.le.size⟩
        have hs := hg.sett hle hown.fr hown.frz
        unfold A3G
        rw [eval_put_ne _ (by simp), eval_put_ne _ (by simp), eval_put_ne _ (by simp), eval_put_same _ (by rw [hz]; decide)]
        exact hs
  intro v wz hg hS
  have s2 : OwnB wz3.heap.size wz (v 45) (u.host ++ [58]) := hS 45 (by decide)
  have s5 : OwnB wz3.heap.size wz (v 48) (Lib.decDigits np) := hS 48 (by decide)
  obtain ⟨n2, A2, c2, es2⟩ := s2.shape
  obtain ⟨n5, A5, c5, es5⟩ := s5.shape
  rw [es2] at s2
  rw [es5] at s5
  have HS2 := Lib.hid s2
  have HS5 := Lib.hid (s5.bv (by have := HLA.out.2.2.2; omega))
  have HLZ : Hid (Le wz3 wz) := Lib.hid hg.le
  have HLEN : Hid ((u.host ++ [58]).length + (Lib.decDigits np).length ≤ 140737488355328) := Lib.hid (by have := HLA.out.2.2.1; have := HLA.out.2.2.2; simp only [List.length_append, List.length_cons, List.length_nil]; omega)
  clear hS hg s2 s5
  simp only [putsL, Act.put, List.setIfInBounds_toArray, List.set_cons_zero, List.set_cons_succ, List.drop_succ_cons, List.drop_zero]
  rw [es2]
  rw [es5]
  clear es2 es5
  go_wp2_with (at_builtin; refine wpList_append_bv rfl (.tmp 45) (.tmp 48) rfl (base := wz3.heap.size) rfl rfl HS2.out HS5.out HLEN.out HLZ.out.size ?_)
  intro vz4 wz4 hownz hgrowz
  have HOZ4 := Lib.hid hownz
  have HLZ4 : Hid (Le wz3 wz4) := Lib.hid (Below.grown' HLZ.out hgrowz (Nat.le_refl _) (fun g hg => (own_row' HS2.out g hg).1))
  clear hownz hgrowz
  obtain ⟨n8, A8, c8, rfl⟩ := HOZ4.out.shape
  have HV7 : Hid (Bv wz4 (.slice A7 n7 c7) (u.user ++ 64 :: hostS u.host u.port)) := Lib.hid ((OwnB.bv HOZ3.out (by have := HLA.out; simp only [List.length_append, List.length_cons]; omega)).le HLZ4.out)
  have HV8 : Hid (Bv wz4 (.slice A8 n8 c8) (u.host ++ 58 :: Lib.decDigits np)) := Lib.hid (OwnB.bv HOZ4.out (by have := HLA.out; simp only [List.length_append, List.length_cons]; omega))
  have HLT5 : Hid ((u.scheme ++ [58]).length + (u.user ++ 64 :: hostS u.host u.port).length ≤ 140737488355328) := Lib.hid (by have := HLA.out; have := HZ.out.scheme; simp only [List.length_append, List.length_cons, List.length_nil]; omega)
  go_upto_region 5 with fail
  have hm5 : (Tryz.prog).follows .mixedOrders = true := by kernel_rfl
  refine G4.wp_region_grow_put (sp5S w.heap.size wz4.heap.size (.slice Ascheme u.scheme.length cscheme) (.slice A7 n7 c7) (.slice A8 n8 c8) u.scheme (u.user ++ 64 :: hostS u.host u.port) (decide (u.scheme = sSips))) (A4G wz4 52 54 53 61 56 2 62) 64 [50, 51, 52, 53, 54, 55, 56, 57, 58, 59, 60, 61, 62, 63, 2, 3, 4, 5, 6] hm5 (by kernel_rfl) rfl rfl ⟨⟨(Le.refl wz4).drew, Lt.und _, Lt.und _, Lt.und _, Lt.und _, Ap.und _, Ap.und _, Ap.und _⟩, Ap.und _, fun _ => rfl, fun _ => rfl, .inl rfl⟩ ?hold5 ?hs5 ?hend5
  case hold5 =>
    intro t ht
    simp only [List.mem_cons, List.mem_nil_iff, or_false, not_or] at ht
    unfold sp5S
    split <;> first | rfl | trivial | (exfalso; simp at ht)
  case hs5 =>
    refine ⟨?_, ?_, ?_, ?_, ?_, ?_, ?_, ?_, ?_, ?_, ?_, ?_, ?_, ?_, ?_, ?_, ?_, ?_, ?_, trivial⟩
    · refine G4.det ?_ (fun a w v h => A4G.put h (by decide) (by decide) (by decide) (by decide) (by decide) (by decide) (by decide))
      intro a W hg hop
      have h1 : a.eval (.tmp 1) = (.pointer (some ⟨w.heap.size, 0, none⟩)) := (hop 1 (by simp [Op.operands, Call.operands]))
      have h1' : a.tmps[1]?.getD undef = (.pointer (some ⟨w.heap.size, 0, none⟩)) := by simpa [Act.eval] using h1
      refine ⟨(.pointer (some ⟨w.heap.size, 0, none⟩)), ?_, rfl⟩
      simp only [execOp, h1]
      go_simp
    · refine G4.det ?_ (fun a w v h => A4G.put h (by decide) (by decide) (by decide) (by decide) (by decide) (by decide) (by decide))
      intro a W hg hop
      have h50 : a.eval (.tmp 50) = (.pointer (some ⟨w.heap.size, 0, none⟩)) := (hop 50 (by simp [Op.operands, Call.operands]))
      have h50' : a.tmps[50]?.getD undef = (.pointer (some ⟨w.heap.size, 0, none⟩)) := by simpa [Act.eval] using h50
      have hc : W.cell? ⟨w.heap.size, 0, none⟩ = some (.slice Ascheme u.scheme.length cscheme) := (HBX.out W (HL1.out.trans (HLZ3.out.trans (HLZ4.out.trans hg.le)))).1
      refine ⟨(.slice Ascheme u.scheme.length cscheme), ?_, rfl⟩
      simp only [execOp, h50]
      go_simp
    · refine G4.append (.const (.slice none 0 0)) (.tmp 51) 22 rfl ?_
      intro a W hz hu hg hop
      have h1 : a.eval (.tmp 51) = (.slice Ascheme u.scheme.length cscheme) := (hop 51 (by simp [Op.operands, Call.operands]))
      have h2 : Bv W (a.eval (.tmp 51)) u.scheme := by rw [h1]; exact HFs.out.le (HL01.out.trans (HLZ3.out.trans (HLZ4.out.trans hg.le)))
      obtain ⟨v', w', q, k1, hle⟩ := run_append_none h2 22
      refine ⟨v', w', q, ?_, fun t _ h => sp5S_le _ _ _ _ _ _ _ _ t _ _ _ hle h, k1.base hg.le.size⟩
      · have hs := A4.setx' hg hle k1.fr k1.frz
        unfold A4G
        rw [eval_put_same _ (by rw [hz]; decide), eval_put_ne _ (by simp), eval_put_ne _ (by simp), eval_put_ne _ (by simp), eval_put_ne _ (by simp), eval_put_ne _ (by simp), eval_put_ne _ (by simp)]
        exact hs
    · refine G4.run ?_
      intro a W hz hu hg hop
      have hle : Le W (W.alloc (Obj.cells #[.int .u8 58] 5)) := (Le.refl W).alloc _
      have k1 : OwnB W.heap.size (W.alloc (Obj.cells #[.int .u8 58] 5)) (.slice (some ⟨W.heap.size, 0, none⟩) 1 1) [58] := ownb_one W _ 58 rfl
      refine ⟨.slice (some ⟨W.heap.size, 0, none⟩) 1 1, W.alloc (Obj.cells #[.int .u8 58] 5), ?_, ?_, fun t _ h => sp5S_le _ _ _ _ _ _ _ _ t _ _ _ hle h, k1.bv (by decide)⟩
      · simp only [execOp]
        go_simp
      · have hs := A4.setz' hg hle k1.fr k1.frz
        unfold A4G
        rw [eval_put_ne _ (by simp), eval_put_ne _ (by simp), eval_put_same _ (by rw [hz]; decide), eval_put_ne _ (by simp), eval_put_ne _ (by simp), eval_put_ne _ (by simp), eval_put_ne _ (by simp)]
        exact hs
    · refine G4.append (.tmp 52) (.tmp 53) 22 rfl ?_
      intro a W hz hu hg hop
      have h1 : OwnB wz4.heap.size W (a.eval (.tmp 52)) u.scheme := (hop 52 (by simp [Op.operands, Call.operands]))
      have h2 : Bv W (a.eval (.tmp 53)) [58] := (hop 53 (by simp [Op.operands, Call.operands]))
      have h3 : a.eval (.tmp 54) = undef := (hu 54 rfl).trans rfl
      have h4 : a.eval (.tmp 56) = undef := A4.qu hg h3
      have h5 : a.eval (.tmp 2) = .slice none 0 0 := A4.pq hg h4
      obtain ⟨v', w', q, k1, k2, k3, k4⟩ := run_append_side h1 h2 (by have := HZ.out.scheme; simp only [List.length_cons, List.length_nil]; omega) hg.le.size 22
      have kle : Le wz4 w' := Below.grown' hg.le k2 (Nat.le_refl _) (fun g hh => (own_row' h1 g hh).1)
      refine ⟨v', w', q, ?_, fun t ht h => ?_, k1⟩
      · have hs := A4.sety' hg kle k2 k4 k1.frz k1.ne_undef
        unfold A4G
        rw [eval_put_ne _ (by simp), eval_put_same _ (by rw [hz]; decide), eval_put_ne _ (by simp), eval_put_ne _ (by simp), eval_put_ne _ (by simp), eval_put_ne _ (by simp), eval_put_ne _ (by simp)]
        exact hs
      · unfold sp5S at h ⊢
        split at h <;> first | exact h | exact k3 | exact Bv.apart h k2 (A4.toA3 hg).xz | exact SipsAt.apart h k2 (A4.toA3 hg).xt | exact SipsAt.st h (A4.st hg) k2 (A4.toA3 hg).xt | exact absurd rfl ht | exact absurd h4 (Bv.ne_undef h) | exact absurd h5 (Bv.ne_nil h (by simp))
    · refine G4.det ?_ (fun a w v h => A4G.put h (by decide) (by decide) (by decide) (by decide) (by decide) (by decide) (by decide))
      intro a W hg hop
      have h7 : a.eval (.tmp 7) = (.slice A7 n7 c7) := (hop 7 (by simp [Op.operands, Call.operands]))
      have h7' : a.tmps[7]?.getD undef = (.slice A7 n7 c7) := by simpa [Act.eval] using h7
      refine ⟨(.slice A7 n7 c7), ?_, rfl⟩
      simp only [execOp, h7]
      go_simp
    · refine G4.append (.tmp 54) (.tmp 55) 22 rfl ?_
      intro a W hz hu hg hop
      have h1 : OwnB wz4.heap.size W (a.eval (.tmp 54)) (u.scheme ++ [58]) := (hop 54 (by simp [Op.operands, Call.operands]))
      have h2 : a.eval (.tmp 55) = (.slice A7 n7 c7) := (hop 55 (by simp [Op.operands, Call.operands]))
      have h3 : Bv W (a.eval (.tmp 55)) (u.user ++ 64 :: hostS u.host u.port) := by rw [h2]; exact HV7.out.le hg.le
      have h4 : a.eval (.tmp 56) = undef := (hu 56 rfl).trans rfl
      have h5 : a.eval (.tmp 2) = .slice none 0 0 := A4.pq hg h4
      obtain ⟨v', w', q, k1, k2, k3, k4⟩ := run_append_side h1 h3 HLT5.out hg.le.size 22
      have kle : Le wz4 w' := Below.grown' hg.le k2 (Nat.le_refl _) (fun g hh => (own_row' h1 g hh).1)
      refine ⟨v', w', q, ?_, fun t ht h => ?_, k1.bv (by rw [List.length_append]; exact HLT5.out)⟩
      · have hs := A4.setq' hg kle ⟨_, k2⟩ h1.ne_undef k1.ne_undef
        unfold A4G
        rw [eval_put_ne _ (by simp), eval_put_ne _ (by simp), eval_put_ne _ (by simp), eval_put_ne _ (by simp), eval_put_same _ (by rw [hz]; decide), eval_put_ne _ (by simp), eval_put_ne _ (by simp)]
        exact hs
      · unfold sp5S at h ⊢
        split at h <;> first | exact h | exact k3 | exact OwnB.pre h h1 k2 k3 | exact Bv.apart h k2 (A4.yz hg) | exact SipsAt.apart h k2 (A4.toA3 hg).yt | exact SipsAt.st h (A4.st hg) k2 (A4.toA3 hg).yt | exact absurd rfl ht | exact absurd h5 (Bv.ne_nil h (by simp))
    · refine G4.det ?_ (fun a w v h => A4G.put h (by decide) (by decide) (by decide) (by decide) (by decide) (by decide) (by decide))
      intro a W hg hop
      have h7 : a.eval (.tmp 7) = (.slice A7 n7 c7) := (hop 7 (by simp [Op.operands, Call.operands]))
      have h7' : a.tmps[7]?.getD undef = (.slice A7 n7 c7) := by simpa [Act.eval] using h7
      refine ⟨(.slice A7 n7 c7), ?_, rfl⟩
      simp only [execOp, h7]
      go_simp
    · refine G4.det ?_ (fun a w v h => A4G.put h (by decide) (by decide) (by decide) (by decide) (by decide) (by decide) (by decide))
      intro a W hg hop
      have h8 : a.eval (.tmp 8) = (.slice A8 n8 c8) := (hop 8 (by simp [Op.operands, Call.operands]))
      have h8' : a.tmps[8]?.getD undef = (.slice A8 n8 c8) := by simpa [Act.eval] using h8
      refine ⟨(.slice A8 n8 c8), ?_, rfl⟩
      simp only [execOp, h8]
      go_simp
    · refine G4.det ?_ (fun a w v h => A4G.put h (by decide) (by decide) (by decide) (by decide) (by decide) (by decide) (by decide))
      intro a W hg hop
      have h1 : a.eval (.tmp 1) = (.pointer (some ⟨w.heap.size, 0, none⟩)) := (hop 1 (by simp [Op.operands, Call.operands]))
      have h1' : a.tmps[1]?.getD undef = (.pointer (some ⟨w.heap.size, 0, none⟩)) := by simpa [Act.eval] using h1
      refine ⟨(.pointer (some ⟨w.heap.size, 0, none⟩)), ?_, rfl⟩
      simp only [execOp, h1]
      go_simp
    · refine G4.det ?_ (fun a w v h => A4G.put h (by decide) (by decide) (by decide) (by decide) (by decide) (by decide) (by decide))
      intro a W hg hop
      have h59 : a.eval (.tmp 59) = (.pointer (some ⟨w.heap.size, 0, none⟩)) := (hop 59 (by simp [Op.operands, Call.operands]))
      have h59' : a.tmps[59]?.getD undef = (.pointer (some ⟨w.heap.size, 0, none⟩)) := by simpa [Act.eval] using h59
      have hc : W.cell? ⟨w.heap.size, 0, none⟩ = some (.slice Ascheme u.scheme.length cscheme) := (HBX.out W (HL1.out.trans (HLZ3.out.trans (HLZ4.out.trans hg.le)))).1
      refine ⟨(.slice Ascheme u.scheme.length cscheme), ?_, rfl⟩
      simp only [execOp, h59]
      go_simp
    · refine G4.run ?_
      intro a W hz hu hg hop
      have hle : Le W (W.alloc (Obj.cells #[.int .u8 115, .int .u8 105, .int .u8 112, .int .u8 115] 5)) := (Le.refl W).alloc _
      have k1 : SipsAt wz4.heap.size (W.alloc (Obj.cells #[.int .u8 115, .int .u8 105, .int .u8 112, .int .u8 115] 5)) (.slice (some ⟨W.heap.size, 0, none⟩) 4 4) := ⟨W.heap.size, _, rfl, hg.le.size, heap_alloc_new W _⟩
      refine ⟨.slice (some ⟨W.heap.size, 0, none⟩) 4 4, W.alloc (Obj.cells #[.int .u8 115, .int .u8 105, .int .u8 112, .int .u8 115] 5), ?_, ?_, fun t _ h => sp5S_le _ _ _ _ _ _ _ _ t _ _ _ hle h, k1⟩
      · simp only [execOp]
        go_simp
      · have hs := A4.sett' hg hle (v := .slice (some ⟨W.heap.size, 0, none⟩) 4 4) (fun g hh => by simp only [Value.ownBlock, Option.some.injEq] at hh; omega) (fun g hh => by simp only [Value.ownBlock, Option.some.injEq] at hh; simp; omega) ((hu 61 rfl).trans rfl)
        unfold A4G
        rw [eval_put_ne _ (by simp), eval_put_ne _ (by simp), eval_put_ne _ (by simp), eval_put_same _ (by rw [hz]; decide), eval_put_ne _ (by simp), eval_put_ne _ (by simp), eval_put_ne _ (by simp)]
        exact hs
    · refine G4.run ?_
      intro a W hz hu hg hop
      have h1 : SipsAt wz4.heap.size W (a.eval (.tmp 61)) := (hop 61 (by simp [Op.operands, Call.operands]))
      have h1c := h1
      obtain ⟨g, fz, e1, h2, h3⟩ := h1c
      have e1' : a.tmps[61]?.getD undef = .slice (some ⟨g, 0, none⟩) 4 4 := by simpa [Act.eval] using e1
      have hr := conv_frz (P := Tryz.prog) W 22 5 _ fz g 4 4 h3 Tryz.underlying22 Tryz.underlying5
      have hgr := frz_gr W g 4 1
      have hkc : ∀ b, (W.freeze ⟨g, 4, none⟩ 1).cell? b = W.cell? b := fun b => frz_cell W g 4 1 h3 b
      have hgr' : W.grownBy (W.freeze ⟨g, 4, none⟩ 1) (a.eval (.tmp 61)).ownBlock := by rw [e1]; exact hgr
      have kle : Le wz4 (W.freeze ⟨g, 4, none⟩ 1) := Below.grown' hg.le hgr (Nat.le_refl _) (fun g' hh => by injection hh with hh; omega)
      refine ⟨a.eval (.tmp 61), W.freeze ⟨g, 4, none⟩ 1, ?_, ?_, fun t ht h => ?_, SipsAt.frz h1 h3 4 1⟩
      · rw [e1]
        simp only [execOp, e1]
        refine (congrArg (fun x => x) ?_ : _)
        simp only [Sem.run_bind, Sem.run_map, hr, Result.andThen_ok]
        first | rfl | exact rfl
      · have hs := A4.sets' (A4.gr' hg kle ⟨_, hgr⟩)
        unfold A4G
        rw [eval_put_ne _ (by simp), eval_put_ne _ (by simp), eval_put_ne _ (by simp), eval_put_ne _ (by simp), eval_put_ne _ (by simp), eval_put_ne _ (by simp), eval_put_same _ (by rw [hz]; decide)]
        exact hs
      · unfold sp5S at h ⊢
        split at h <;> first | exact h | exact OwnB.apart h hgr' (A4.toA3 hg).xt.symm | exact OwnB.apart h hgr' (A4.toA3 hg).yt.symm | exact Bv.cells h hkc | exact SipsAt.frz h h3 4 1 | exact absurd rfl ht
    · refine G4.call ?_
      intro a W hz hu hg hop
      have h60 : a.eval (.tmp 60) = (.slice Ascheme u.scheme.length cscheme) := (hop 60 (by simp [Op.operands, Call.operands]))
      have h60' : a.tmps[60]?.getD undef = (.slice Ascheme u.scheme.length cscheme) := by simpa [Act.eval] using h60
      have h62 : SipsAt wz4.heap.size W (a.eval (.tmp 62)) := (hop 62 (by simp [Op.operands, Call.operands]))
      refine ⟨57, #[(.slice Ascheme u.scheme.length cscheme), a.eval (.tmp 62)], ?_, (isSame_x _ _ u.scheme sSips W _ rfl (HFs.out.le (HL01.out.trans (HLZ3.out.trans (HLZ4.out.trans hg.le)))) h62.bv).mono ?_⟩
      · clear hz hu
        simp only [execOp, h60]
        go_simp
      · rintro e w' ⟨rfl, rfl⟩
        exact ⟨_, rfl, A4G.put hg (by decide) (by decide) (by decide) (by decide) (by decide) (by decide) (by decide), fun _ _ h => h, rfl⟩
    · refine G4.run ?_
      intro a W hz hu hg hop
      have h56 : Bv W (a.eval (.tmp 56)) (u.scheme ++ [58] ++ (u.user ++ 64 :: hostS u.host u.port)) := (hop 56 (by simp [Op.operands, Call.operands]))
      refine ⟨a.eval (.tmp 56), W, ?_, ?_, fun _ _ h => h, h56⟩
      · clear hz hu
        simp only [execOp]
        go_simp
      · have hs := A4.setp' hg (v := a.eval (.tmp 56)) h56.ne_undef
        unfold A4G
        rw [eval_put_ne _ (by simp), eval_put_ne _ (by simp), eval_put_ne _ (by simp), eval_put_ne _ (by simp), eval_put_ne _ (by simp), eval_put_same _ (by rw [hz]; decide), eval_put_ne _ (by simp)]
        exact hs
    · refine G4.det ?_ (fun a w v h => A4G.put h (by decide) (by decide) (by decide) (by decide) (by decide) (by decide) (by decide))
      intro a W hg hop
      have h57 : a.eval (.tmp 57) = (.slice A7 n7 c7) := (hop 57 (by simp [Op.operands, Call.operands]))
      have h57' : a.tmps[57]?.getD undef = (.slice A7 n7 c7) := by simpa [Act.eval] using h57
      refine ⟨(.slice A7 n7 c7), ?_, rfl⟩
      simp only [execOp, h57]
      go_simp
    · refine G4.det ?_ (fun a w v h => A4G.put h (by decide) (by decide) (by decide) (by decide) (by decide) (by decide) (by decide))
      intro a W hg hop
      have h58 : a.eval (.tmp 58) = (.slice A8 n8 c8) := (hop 58 (by simp [Op.operands, Call.operands]))
      have h58' : a.tmps[58]?.getD undef = (.slice A8 n8 c8) := by simpa [Act.eval] using h58
      refine ⟨(.slice A8 n8 c8), ?_, rfl⟩
      simp only [execOp, h58]
      go_simp
    · refine G4.det ?_ (fun a w v h => A4G.put h (by decide) (by decide) (by decide) (by decide) (by decide) (by decide) (by decide))
      intro a W hg hop
      have h63 : a.eval (.tmp 63) = .bool (decide (u.scheme = sSips)) := (hop 63 (by simp [Op.operands, Call.operands]))
      have h63' : a.tmps[63]?.getD undef = .bool (decide (u.scheme = sSips)) := by simpa [Act.eval] using h63
      refine ⟨.bool (decide (u.scheme = sSips)), ?_, rfl⟩
      simp only [execOp, h63]
      go_simp
    · refine G4.det ?_ (fun a w v h => A4G.put h (by decide) (by decide) (by decide) (by decide) (by decide) (by decide) (by decide))
      intro a W hg hop
      refine ⟨.int .i64 0, ?_, rfl⟩
      simp only [execOp]
      go_simp
  case hend5 =>
    intro v wz hg hS
    have s2 : Bv wz (v 2) (u.scheme ++ [58] ++ (u.user ++ 64 :: hostS u.host u.port)) := hS 2 (by decide)
    have s3 : v 3 = (.slice A7 n7 c7) := hS 3 (by decide)
    have s4 : v 4 = (.slice A8 n8 c8) := hS 4 (by decide)
    have s5 : v 5 = .bool (decide (u.scheme = sSips)) := hS 5 (by decide)
    have s6 : v 6 = .int .i64 0 := hS 6 (by decide)
    obtain ⟨m2, A2, c2, es2⟩ : ∃ m A c, v 2 = .slice A m c := by obtain ⟨A, c, e⟩ := s2.form; exact ⟨_, A, c, e⟩
    rw [es2] at s2
    have HS2 := Lib.hid s2
    have HLE : Hid (Le wz4 wz) := Lib.hid (A4.toA3 hg).le
    clear hS hg s2
    simp only [putsL, Act.put, List.setIfInBounds_toArray, List.set_cons_zero, List.set_cons_succ]
    rw [es2, s3, s4, s5, s6]
    clear es2 s3 s4 s5 s6
    go_wp2
    go_returns
    refine ⟨_, _, _, _, _, rfl, ⟨_, _, _, rfl⟩, ⟨_, _, _, rfl⟩, ⟨_, _, _, rfl⟩, HL01.out.trans (HLZ3.out.trans (HLZ4.out.trans HLE.out)), .inr ⟨rfl, HPLN.out, HU0.out, HP0.out, HR0.out, HS2.out, HV7.out.le HLE.out, ?_, rfl⟩⟩
    have h2 : u.port.toNat = np := by have := HNP.out.1; omega
    rw [h2]
    exact HV8.out.le HLE.out
end Go.Proofs.YteedhaenbamiaaaGreatDoor
