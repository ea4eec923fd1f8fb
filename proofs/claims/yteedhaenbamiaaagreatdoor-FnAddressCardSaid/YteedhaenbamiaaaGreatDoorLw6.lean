/- Contract: the laws' isUri: what holds where it says true (printed by gen_isuri.py). -/
import Derived.Test.YteedhaenbamiaaaGreatDoorLw
import Derived.Test.YteedhaenbamiaaaGreatDoorFnUO
set_option linter.unusedVariables false
set_option linter.unusedSimpArgs false
namespace Go.Proofs.YteedhaenbamiaaaGreatDoor
open Go.RowKit

structure Good1 (u : PU) : Prop where
  scheme : u.scheme = sSip ∨ u.scheme = sSips
  raw : u.raw = []
  wild : u.wild = false
  slash : u.slash = false
  lo : 0 ≤ u.port
  hi : u.port ≤ 65535
  host : hostB u.host = true
structure Good2 (u : PU) : Prop where
  user : u.user = [] ∨ userB u.user = true
  pass : u.pass = [] ∨ (u.user ≠ [] ∧ userB u.pass = true)
structure Good3 (u : PU) : Prop where
  ps : prmB u.ps false = true
  hs : prmB u.hs true = true
  last : u.hs = [] ∨ u.ps = [] ∨ lastV u.ps ≠ []
/-- a right URI -/
structure GoodU (u : PU) : Prop extends Good1 u, Good2 u, Good3 u
def IsUriPost (u : PU) (w : World) (e : Ending) (w' : World) : Prop := ∃ r, e = .returned (.bool r) ∧ (r = true → GoodU u) ∧ Le w w'
theorem lastV_i {l : KVs} {m : Nat} (h : m < l.length) (e : m = l.length - 1) : lastV l = l[m].2 := by
  subst e
  unfold lastV
  simp [List.getLast?_eq_getElem?, List.getElem?_eq_getElem h]
theorem nil_of_len {l : Tx} (h : l.length = 0) : l = [] := List.eq_nil_of_length_eq_zero h
def CutP (G : Prop) (w : World) (s : Value) (wc : World) : Prop := ∃ g : Bool, s = .bool g ∧ Le w wc ∧ (g = false → G)
set_option maxRecDepth 8000 in
set_option maxHeartbeats 8000000 in
theorem isUri_c (w : World) (x : UV) (u : PU) (hx : Uq (fun _ => True) w x u) :
    Calls Tryz.prog 20 #[x.val] w (IsUriPost u w) := by
  have HX := Lib.hid hx
  obtain ⟨Ascheme, cscheme, escheme⟩ := hx.scheme.1.form
  obtain ⟨Araw, craw, eraw⟩ := hx.raw.1.form
  obtain ⟨Auser, cuser, euser⟩ := hx.user.1.form
  obtain ⟨Apass, cpass, epass⟩ := hx.pass.1.form
  obtain ⟨Ahost, chost, ehost⟩ := hx.host.1.form
  obtain ⟨Aps, cps, eps⟩ : ∃ A c, x.ps = .slice A u.ps.length c := by obtain ⟨A, c, e, _⟩ := hx.ps; exact ⟨A, c, e⟩
  obtain ⟨Ahs, chs, ehs⟩ : ∃ A c, x.hs = .slice A u.hs.length c := by obtain ⟨A, c, e, _⟩ := hx.hs; exact ⟨A, c, e⟩
  have hval : x.val = .agg #[.slice Ascheme u.scheme.length cscheme, .slice Araw u.raw.length craw, .bool x.wild, .bool x.slash, .slice Auser u.user.length cuser, .slice Apass u.pass.length cpass, .slice Ahost u.host.length chost, .int .i64 x.port, .slice Aps u.ps.length cps, .slice Ahs u.hs.length chs] := by
    unfold UV.val; rw [escheme, eraw, euser, epass, ehost, eps, ehs]
  have HE := Lib.hid (⟨escheme, eraw, euser, epass, ehost, eps, ehs⟩ : _ ∧ _ ∧ _ ∧ _ ∧ _ ∧ _ ∧ _)
  have HW : Hid (x.wild = u.wild ∧ x.slash = u.slash ∧ x.port = u.port) := Lib.hid ⟨hx.wild, hx.slash, hx.port⟩
  rw [hval]
  clear hval hx escheme eraw euser epass ehost eps ehs
  go_enter Tryz.func20, Tryz.ntmps20
  go_upto_region 1 with fail
  have HB0 := Lib.hid (heap_alloc_new w (Obj.cells #[.slice Ascheme u.scheme.length cscheme, .slice Araw u.raw.length craw, .bool x.wild, .bool x.slash, .slice Auser u.user.length cuser, .slice Apass u.pass.length cpass, .slice Ahost u.host.length chost, .int .i64 x.port, .slice Aps u.ps.length cps, .slice Ahs u.hs.length chs] 32))
  have HL0 : Hid (Le w (w.alloc (Obj.cells #[.slice Ascheme u.scheme.length cscheme, .slice Araw u.raw.length craw, .bool x.wild, .bool x.slash, .slice Auser u.user.length cuser, .slice Apass u.pass.length cpass, .slice Ahost u.host.length chost, .int .i64 x.port, .slice Aps u.ps.length cps, .slice Ahs u.hs.length chs] 32))) := Lib.hid ((Le.refl w).alloc _)
  generalize w.alloc (Obj.cells #[.slice Ascheme u.scheme.length cscheme, .slice Araw u.raw.length craw, .bool x.wild, .bool x.slash, .slice Auser u.user.length cuser, .slice Apass u.pass.length cpass, .slice Ahost u.host.length chost, .int .i64 x.port, .slice Aps u.ps.length cps, .slice Ahs u.hs.length chs] 32) = W0 at HB0 HL0 ⊢
  generalize Value.agg #[.slice Ascheme u.scheme.length cscheme, .slice Araw u.raw.length craw, .bool x.wild, .bool x.slash, .slice Auser u.user.length cuser, .slice Apass u.pass.length cpass, .slice Ahost u.host.length chost, .int .i64 x.port, .slice Aps u.ps.length cps, .slice Ahs u.hs.length chs] = ag
  go_cut [43] from 4 to 43 (CutP (Good1 u) W0)
  case first =>
    have y0 : W0.cell? ⟨w.heap.size, 0, none⟩ = some (.slice Ascheme u.scheme.length cscheme) := by rw [cell_cells HB0.out 0]; rfl
    obtain ⟨r1, hr1⟩ : ∃ r, decide (u.scheme = sSip) = r := ⟨_, rfl⟩
    have R1 := Lib.hid hr1
    have C1 := Lib.hid (is_d W0 _ u.scheme sSip ⟨#[115, 105, 112]⟩ r1 (by have := HX.out.scheme.1.le HL0.out; rw [HE.out.1] at this; exact this) rfl (by decide) hr1)
    clear hr1
    go_wp2_with fail
    refine C1.out.mono ?_
    rintro e wx ⟨rfl, hlex⟩
    have HLX := Lib.hid hlex
    have HBX := Lib.hid (hlex.heap HB0.out)
    clear y0 hlex C1
    cases r1
    case true =>
      have y1 : wx.cell? ⟨w.heap.size, 1, none⟩ = some (.slice Araw u.raw.length craw) := by rw [cell_cells HBX.out 1]; rfl
      have y2 : wx.cell? ⟨w.heap.size, 2, none⟩ = some (.bool x.wild) := by rw [cell_cells HBX.out 2]; rfl
      have y3 : wx.cell? ⟨w.heap.size, 3, none⟩ = some (.bool x.slash) := by rw [cell_cells HBX.out 3]; rfl
      have y6 : wx.cell? ⟨w.heap.size, 6, none⟩ = some (.slice Ahost u.host.length chost) := by rw [cell_cells HBX.out 6]; rfl
      have y7 : wx.cell? ⟨w.heap.size, 7, none⟩ = some (.int .i64 x.port) := by rw [cell_cells HBX.out 7]; rfl
      by_cases c1 : u.raw.length = 0
      case neg =>
        have c1' : (0 : Int) < u.raw.length := by omega
        clear c1
        generalize u.raw.length = m1 at y1 c1'
        go_wp2
        go_meet
        case rel => exact ⟨true, rfl, HLX.out, fun h => by cases h⟩
      have C1 : Hid (u.raw = []) := Lib.hid (nil_of_len c1)
      generalize u.raw.length = m1 at *
      subst c1
      obtain ⟨q2, hq2⟩ : ∃ q, x.wild = q := ⟨_, rfl⟩
      rw [hq2] at y2
      have Q2 := Lib.hid hq2
      clear hq2
      cases q2
      case true =>
        go_wp2
        go_meet
        case rel => exact ⟨true, rfl, HLX.out, fun h => by cases h⟩
      obtain ⟨q3, hq3⟩ : ∃ q, x.slash = q := ⟨_, rfl⟩
      rw [hq3] at y3
      have Q3 := Lib.hid hq3
      clear hq3
      cases q3
      case true =>
        go_wp2
        go_meet
        case rel => exact ⟨true, rfl, HLX.out, fun h => by cases h⟩
      obtain ⟨po, hpo⟩ : ∃ q, x.port = q := ⟨_, rfl⟩
      rw [hpo] at y7
      have PO := Lib.hid hpo
      clear hpo
      by_cases c4 : po < 0
      case pos =>
        go_wp2
        go_meet
        case rel => exact ⟨true, rfl, HLX.out, fun h => by cases h⟩
      have c4' : decide (po < 0) = false := decide_eq_false c4
      by_cases c5 : 65535 < po
      case pos =>
        have C4 := Lib.hid c4
        clear c4
        go_wp2
        go_meet
        case rel => exact ⟨true, rfl, HLX.out, fun h => by cases h⟩
      have c5' : decide (65535 < po) = false := decide_eq_false c5
      have C45 : Hid (0 ≤ po ∧ po ≤ 65535) := Lib.hid (by omega)
      clear c4 c5
      obtain ⟨q6, hq6⟩ : ∃ q, hostB u.host = q := ⟨_, rfl⟩
      have C6 := Lib.hid (isHost_d _ u.host wx q6 hq6 (by have := HX.out.host.1.le (Le.trans HL0.out HLX.out); rw [HE.out.2.2.2.2.1] at this; exact this))
      have Q6 := Lib.hid hq6
      clear hq6
      go_wp2_with fail
      refine C6.out.mono ?_
      rintro e w' ⟨rfl, rfl⟩
      cases q6
      case false =>
        go_wp2
        go_meet
        case rel => exact ⟨true, rfl, HLX.out, fun h => by cases h⟩
      have HG : Hid (Good1 u) := Lib.hid ⟨.inl (of_decide_eq_true R1.out), C1.out, HW.out.1.symm.trans Q2.out, HW.out.2.1.symm.trans Q3.out, by rw [← HW.out.2.2, PO.out]; exact C45.out.1, by rw [← HW.out.2.2, PO.out]; exact C45.out.2, Q6.out⟩
      go_wp2
      go_meet
      case rel => exact ⟨false, rfl, HLX.out, fun _ => HG.out⟩
    case false =>
      have y0 : wx.cell? ⟨w.heap.size, 0, none⟩ = some (.slice Ascheme u.scheme.length cscheme) := by rw [cell_cells HBX.out 0]; rfl
      obtain ⟨r2, hr2⟩ : ∃ r, decide (u.scheme = sSips) = r := ⟨_, rfl⟩
      have R2 := Lib.hid hr2
      have C2 := Lib.hid (is_d wx _ u.scheme sSips ⟨#[115, 105, 112, 115]⟩ r2 (by have := HX.out.scheme.1.le (Le.trans HL0.out HLX.out); rw [HE.out.1] at this; exact this) rfl (by decide) hr2)
      clear hr2
      go_wp2_with fail
      refine C2.out.mono ?_
      rintro e wy ⟨rfl, hley⟩
      have HLY := Lib.hid (Le.trans HLX.out hley)
      have HBY := Lib.hid (hley.heap HBX.out)
      clear y0 hley C2
      cases r2
      case false =>
        go_wp2
        go_meet
        case rel => exact ⟨true, rfl, HLY.out, fun h => by cases h⟩
      case true =>
        have y1 : wy.cell? ⟨w.heap.size, 1, none⟩ = some (.slice Araw u.raw.length craw) := by rw [cell_cells HBY.out 1]; rfl
        have y2 : wy.cell? ⟨w.heap.size, 2, none⟩ = some (.bool x.wild) := by rw [cell_cells HBY.out 2]; rfl
        have y3 : wy.cell? ⟨w.heap.size, 3, none⟩ = some (.bool x.slash) := by rw [cell_cells HBY.out 3]; rfl
        have y6 : wy.cell? ⟨w.heap.size, 6, none⟩ = some (.slice Ahost u.host.length chost) := by rw [cell_cells HBY.out 6]; rfl
        have y7 : wy.cell? ⟨w.heap.size, 7, none⟩ = some (.int .i64 x.port) := by rw [cell_cells HBY.out 7]; rfl
        by_cases c1 : u.raw.length = 0
        case neg =>
          have c1' : (0 : Int) < u.raw.length := by omega
          clear c1
          generalize u.raw.length = m1 at y1 c1'
          go_wp2
          go_meet
          case rel => exact ⟨true, rfl, HLY.out, fun h => by cases h⟩
        have C1 : Hid (u.raw = []) := Lib.hid (nil_of_len c1)
        generalize u.raw.length = m1 at *
        subst c1
        obtain ⟨q2, hq2⟩ : ∃ q, x.wild = q := ⟨_, rfl⟩
        rw [hq2] at y2
        have Q2 := Lib.hid hq2
        clear hq2
        cases q2
        case true =>
          go_wp2
          go_meet
          case rel => exact ⟨true, rfl, HLY.out, fun h => by cases h⟩
        obtain ⟨q3, hq3⟩ : ∃ q, x.slash = q := ⟨_, rfl⟩
        rw [hq3] at y3
        have Q3 := Lib.hid hq3
        clear hq3
        cases q3
        case true =>
          go_wp2
          go_meet
          case rel => exact ⟨true, rfl, HLY.out, fun h => by cases h⟩
        obtain ⟨po, hpo⟩ : ∃ q, x.port = q := ⟨_, rfl⟩
        rw [hpo] at y7
        have PO := Lib.hid hpo
        clear hpo
        by_cases c4 : po < 0
        case pos =>
          go_wp2
          go_meet
          case rel => exact ⟨true, rfl, HLY.out, fun h => by cases h⟩
        have c4' : decide (po < 0) = false := decide_eq_false c4
        by_cases c5 : 65535 < po
        case pos =>
          have C4 := Lib.hid c4
          clear c4
          go_wp2
          go_meet
          case rel => exact ⟨true, rfl, HLY.out, fun h => by cases h⟩
        have c5' : decide (65535 < po) = false := decide_eq_false c5
        have C45 : Hid (0 ≤ po ∧ po ≤ 65535) := Lib.hid (by omega)
        clear c4 c5
        obtain ⟨q6, hq6⟩ : ∃ q, hostB u.host = q := ⟨_, rfl⟩
        have C6 := Lib.hid (isHost_d _ u.host wy q6 hq6 (by have := HX.out.host.1.le (Le.trans HL0.out HLY.out); rw [HE.out.2.2.2.2.1] at this; exact this))
        have Q6 := Lib.hid hq6
        clear hq6
        go_wp2_with fail
        refine C6.out.mono ?_
        rintro e w' ⟨rfl, rfl⟩
        cases q6
        case false =>
          go_wp2
          go_meet
          case rel => exact ⟨true, rfl, HLY.out, fun h => by cases h⟩
        have HG : Hid (Good1 u) := Lib.hid ⟨.inr (of_decide_eq_true R2.out), C1.out, HW.out.1.symm.trans Q2.out, HW.out.2.1.symm.trans Q3.out, by rw [← HW.out.2.2, PO.out]; exact C45.out.1, by rw [← HW.out.2.2, PO.out]; exact C45.out.2, Q6.out⟩
        go_wp2
        go_meet
        case rel => exact ⟨false, rfl, HLY.out, fun _ => HG.out⟩
  obtain ⟨g1, rfl, hle1, hg1⟩ := hcut
  have HL1 := Lib.hid (Le.trans HL0.out hle1)
  have HB1 := Lib.hid (hle1.heap HB0.out)
  have HG1 := Lib.hid hg1
  clear hle1 hg1
  cases g1
  case true =>
    go_wp2
    go_ret
    exact ⟨false, rfl, fun h => (by cases h), HL1.out⟩
  rename World => W1
  go_upto_region 3 with fail
  go_cut [71] from 44 to 71 (CutP (Good2 u) W1)
  case first =>
    have y4 : W1.cell? ⟨w.heap.size, 4, none⟩ = some (.slice Auser u.user.length cuser) := by rw [cell_cells HB1.out 4]; rfl
    have y5 : W1.cell? ⟨w.heap.size, 5, none⟩ = some (.slice Apass u.pass.length cpass) := by rw [cell_cells HB1.out 5]; rfl
    obtain ⟨q4, hq4⟩ : ∃ q, userB u.user = q := ⟨_, rfl⟩
    obtain ⟨q5, hq5⟩ : ∃ q, userB u.pass = q := ⟨_, rfl⟩
    have C4 := Lib.hid (isUser_d _ u.user W1 q4 hq4 (by have := HX.out.user.1.le HL1.out; rw [HE.out.2.2.1] at this; exact this))
    have C5 := Lib.hid (isUser_d _ u.pass W1 q5 hq5 (by have := HX.out.pass.1.le HL1.out; rw [HE.out.2.2.2.1] at this; exact this))
    have Q4 := Lib.hid hq4
    have Q5 := Lib.hid hq5
    clear hq4 hq5
    by_cases cu : u.user.length = 0
    case pos =>
      have CU : Hid (u.user = []) := Lib.hid (nil_of_len cu)
      by_cases cp : u.pass.length = 0
      case pos =>
        have CP : Hid (u.pass = []) := Lib.hid (nil_of_len cp)
        generalize u.user.length = n4 at cu y4
        generalize u.pass.length = n5 at cp y5
        subst cu
        subst cp
        go_wp2
        go_meet
        case rel => exact ⟨false, rfl, Le.refl _, fun _ => ⟨.inl CU.out, .inl CP.out⟩⟩
      case neg =>
        have cp' : (0 : Int) < u.pass.length := by omega
        generalize u.user.length = n4 at cu y4
        generalize u.pass.length = n5 at cp cp' y5
        clear cp
        subst cu
        go_wp2
        go_meet
        case rel => exact ⟨true, rfl, Le.refl _, fun h => by cases h⟩
    case neg =>
      have CU : Hid (u.user ≠ []) := Lib.hid (fun h => cu (by rw [h]; rfl))
      have cu' : (0 : Int) < u.user.length := by omega
      have cu2 : ((u.user.length : Int) == 0) = false := by rw [beq_eq_false_iff_ne]; omega
      by_cases cp : u.pass.length = 0
      case pos =>
        have CP : Hid (u.pass = []) := Lib.hid (nil_of_len cp)
        generalize u.user.length = n4 at cu cu' cu2 y4 C4
        generalize u.pass.length = n5 at cp y5
        subst cp
        clear cu
        go_wp2_with fail
        refine C4.out.mono ?_
        rintro e w' ⟨rfl, rfl⟩
        cases q4
        case false =>
          go_wp2
          go_meet
          case rel => exact ⟨true, rfl, Le.refl _, fun h => by cases h⟩
        case true =>
          go_wp2
          go_meet
          case rel => exact ⟨false, rfl, Le.refl _, fun _ => ⟨.inr Q4.out, .inl CP.out⟩⟩
      case neg =>
        have cp' : (0 : Int) < u.pass.length := by omega
        generalize u.user.length = n4 at cu cu' cu2 y4 C4
        generalize u.pass.length = n5 at cp cp' y5 C5
        clear cu cp
        go_wp2_with fail
        refine C4.out.mono ?_
        rintro e w' ⟨rfl, rfl⟩
        cases q4
        case false =>
          go_wp2
          go_meet
          case rel => exact ⟨true, rfl, Le.refl _, fun h => by cases h⟩
        case true =>
          go_wp2_with fail
          refine C5.out.mono ?_
          rintro e w' ⟨rfl, rfl⟩
          cases q5
          case false =>
            go_wp2
            go_meet
            case rel => exact ⟨true, rfl, Le.refl _, fun h => by cases h⟩
          case true =>
            go_wp2
            go_meet
            case rel => exact ⟨false, rfl, Le.refl _, fun _ => ⟨.inr Q4.out, .inr ⟨CU.out, Q5.out⟩⟩⟩
  obtain ⟨g2, rfl, hle2, hg2⟩ := hcut
  have HL2 := Lib.hid (Le.trans HL1.out hle2)
  have HB2 := Lib.hid (hle2.heap HB1.out)
  have HG2 := Lib.hid hg2
  clear hle2 hg2
  cases g2
  case true =>
    go_wp2
    go_ret
    exact ⟨false, rfl, fun h => (by cases h), HL2.out⟩
  rename World => W2
  have y8 : W2.cell? ⟨w.heap.size, 8, none⟩ = some (.slice Aps u.ps.length cps) := by rw [cell_cells HB2.out 8]; rfl
  go_upto_region 6 with fail
  clear y8
  have y8 : W2.cell? ⟨w.heap.size, 8, none⟩ = some (.slice Aps u.ps.length cps) := by rw [cell_cells HB2.out 8]; rfl
  have K8 : Hid (Kq (fun _ => True) W2 (.slice Aps u.ps.length cps) u.ps) := Lib.hid (by have := HX.out.ps.le HL2.out; rw [HE.out.2.2.2.2.2.1] at this; exact this)
  have K9 : Hid (Kq (fun _ => True) W2 (.slice Ahs u.hs.length chs) u.hs) := Lib.hid (by have := HX.out.hs.le HL2.out; rw [HE.out.2.2.2.2.2.2] at this; exact this)
  obtain ⟨q8, hq8⟩ : ∃ q, prmB u.ps false = q := ⟨_, rfl⟩
  have Q8 := Lib.hid hq8
  have C8 := Lib.hid (isParams_c _ _ u.ps false W2 q8 hq8 K8.out)
  clear hq8
  go_wp2_with fail
  refine C8.out.mono ?_
  rintro e w3 ⟨rfl, m3, hw3⟩
  have HLE3 : Hid (Le W2 w3) := Lib.hid (hw3 ▸ (Le.refl W2).drewN m3)
  have HB3 := Lib.hid (HLE3.out.heap HB2.out)
  have HL3 := Lib.hid (Le.trans HL2.out HLE3.out)
  clear hw3 C8 y8
  cases q8
  case false =>
    go_wp2
    go_ret
    exact ⟨false, rfl, fun h => (by cases h), HL3.out⟩
  have y8 : w3.cell? ⟨w.heap.size, 8, none⟩ = some (.slice Aps u.ps.length cps) := by rw [cell_cells HB3.out 8]; rfl
  have y9 : w3.cell? ⟨w.heap.size, 9, none⟩ = some (.slice Ahs u.hs.length chs) := by rw [cell_cells HB3.out 9]; rfl
  obtain ⟨q9, hq9⟩ : ∃ q, prmB u.hs true = q := ⟨_, rfl⟩
  have Q9 := Lib.hid hq9
  have C9 := Lib.hid (isParams_c _ _ u.hs true w3 q9 hq9 (K9.out.le HLE3.out))
  clear hq9
  go_wp2_with fail
  refine C9.out.mono ?_
  rintro e w4 ⟨rfl, m4, hw4⟩
  have HLE4 : Hid (Le w3 w4) := Lib.hid (hw4 ▸ (Le.refl w3).drewN m4)
  have HB4 := Lib.hid (HLE4.out.heap HB3.out)
  have HL4 := Lib.hid (Le.trans HL3.out HLE4.out)
  clear hw4 C9 y8 y9
  cases q9
  case false =>
    go_wp2
    go_ret
    exact ⟨false, rfl, fun h => (by cases h), HL4.out⟩
  have HGG : Hid ((u.hs = [] ∨ u.ps = [] ∨ lastV u.ps ≠ []) → GoodU u) := Lib.hid fun h => ⟨HG1.out (by trivial), HG2.out (by trivial), ⟨Q8.out, Q9.out, h⟩⟩
  have y8 : w4.cell? ⟨w.heap.size, 8, none⟩ = some (.slice Aps u.ps.length cps) := by rw [cell_cells HB4.out 8]; rfl
  have y9 : w4.cell? ⟨w.heap.size, 9, none⟩ = some (.slice Ahs u.hs.length chs) := by rw [cell_cells HB4.out 9]; rfl
  by_cases ch : u.hs.length = 0
  case pos =>
    have CH : Hid (u.hs = []) := Lib.hid (List.eq_nil_of_length_eq_zero ch)
    generalize u.hs.length = n9 at ch y9
    subst ch
    go_wp2
    go_ret
    exact ⟨true, rfl, fun _ => HGG.out (.inl CH.out), HL4.out⟩
  have ch' : ((u.hs.length : Int) == 0) = false := by rw [beq_eq_false_iff_ne]; omega
  clear ch
  by_cases cn : u.ps.length = 0
  case pos =>
    have CN : Hid (u.ps = []) := Lib.hid (List.eq_nil_of_length_eq_zero cn)
    rw [cn] at y8 ⊢
    clear cn
    go_wp2
    go_ret
    exact ⟨true, rfl, fun _ => HGG.out (.inr (.inl CN.out)), HL4.out⟩
  have cn' : ((u.ps.length : Int) == 0) = false := by rw [beq_eq_false_iff_ne]; omega
  obtain ⟨m', hm'⟩ : ∃ m', u.ps.length = m' + 1 := ⟨u.ps.length - 1, by omega⟩
  have hlt : m' < u.ps.length := by omega
  have HLV : Hid (lastV u.ps = (u.ps[m']'hlt).2) := Lib.hid (lastV_i hlt (by omega))
  have hmb : m' ≤ 64 := by
    have := Q8.out
    unfold prmB at this
    simp only [Bool.and_eq_true, decide_eq_true_eq] at this
    omega
  obtain ⟨g, o, rfl, xv, yv, d1, d2, X, Y⟩ := (K8.out.le (Le.trans HLE3.out HLE4.out)).at_ (k := m') hlt
  obtain ⟨Av, cv, hvv⟩ := Y.out.form
  rw [hm'] at y8 cn' ⊢
  clear cn d1 X Y K8
  by_cases cl : (u.ps[m']'hlt).2.length = 0
  case pos =>
    have HF : Hid (yv = .slice Av 0 cv) := Lib.hid (by rw [hvv, cl])
    rw [HF.out] at d2
    clear hvv cl hm'
    go_wp2
    go_ret
    exact ⟨false, rfl, fun h => (by cases h), HL4.out⟩
  case neg =>
    have CL : Hid (lastV u.ps ≠ []) := Lib.hid (by rw [HLV.out]; exact fun h => cl (by rw [h]; rfl))
    rw [hvv] at d2
    have cl' : (0 : Int) < (u.ps[m']'hlt).2.length := by omega
    clear hvv cl HLV hm'
    generalize (u.ps[m']'hlt).2.length = nv at d2 cl'
    have cl2 : decide (0 < nv) = true := decide_eq_true (by omega)
    have cn2 : (((m' : Int) + 1) == 0) = false := by rw [beq_eq_false_iff_ne]; omega
    clear cl'
    go_wp2
    go_ret
    exact ⟨true, rfl, fun _ => HGG.out (.inr (.inr CL.out)), HL4.out⟩
end Go.Proofs.YteedhaenbamiaaaGreatDoor
