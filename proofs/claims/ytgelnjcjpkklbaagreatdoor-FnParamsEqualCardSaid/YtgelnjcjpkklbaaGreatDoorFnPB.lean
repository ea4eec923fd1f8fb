/- Contract: the law FnParamsBack. -/
import Derived.Test.YtgelnjcjpkklbaaGreatDoorFnPE
import Derived.Test.YtgelnjcjpkklbaaGreatDoorPmt
set_option linter.unusedVariables false
set_option linter.unusedSimpArgs false
namespace Go.Proofs.YtgelnjcjpkklbaaGreatDoor
open Go.RowKit

theorem equal_e (w : World) (x y : Value) (lx ly : Tx) (b : Bool) (h : decide (lx = ly) = b) (hx : Bv w x lx) (hy : Bv w y ly) :
    Calls Tryz.prog 17 #[x, y] w fun e w' => e = .returned (.bool b) ∧ Le w w' :=
  (equal_b w x y lx ly b h hx hy).mono fun e w' ⟨h1, m, h2⟩ => ⟨h1, h2 ▸ (Le.refl w).drewN m⟩
theorem PrmG.flat {l : KVs} (h : PrmG l) (sep : UInt8) : (l.flatMap (kvText sep)).length ≤ 2097153 := by
  have h1 := h.tlen sep
  rw [← psText_pt h.wd] at h1
  unfold psText at h1
  rw [List.length_drop] at h1
  omega
theorem PrmG.ksm {l : KVs} (h : PrmG l) : KSm 1099511627775 l := ⟨by have := h.len; omega, fun x hx => by have := h.sm x hx; omega⟩
set_option maxRecDepth 8000 in
set_option maxHeartbeats 8000000 in
theorem fnParamsBack_c (w : World) (v : Value) (l : KVs) (amp : Bool) (hv : Kw w v l) (hL : Laid w) :
    Calls Tryz.prog 6 #[v, .bool amp] w fun e w' => e = .returned (.bool true) ∧ Le w w' := by
  have HV := Lib.hid hv
  have HL := Lib.hid hL
  obtain ⟨A0, c0, rfl⟩ := hv.form
  clear hv hL
  have KN : ∀ (W : World), Hid (Le w W) → Calls Tryz.prog 14 #[] W fun e w' => e = .returned (.bool true) ∧ Le w w' := fun W hW => (known_c W (HL.out.le hW.out)).mono fun e w' ⟨h1, h2⟩ => ⟨h1, hW.out.trans h2⟩
  have HKN := Lib.hid KN
  clear KN
  go_enter Tryz.func6, Tryz.ntmps6
  go_wp2_with fail
  obtain ⟨r0, hr0⟩ : ∃ r, ftKs l = r := ⟨_, rfl⟩
  refine (zzFits3_c w _ l r0 hr0 HV.out).mono ?_
  rintro e w1 ⟨rfl, hle1⟩
  have HR0 := Lib.hid hr0
  have HLE1 := Lib.hid hle1
  clear hr0 hle1
  cases r0
  case false =>
    go_wp2
    go_ret
    exact ⟨rfl, HLE1.out⟩
  have HK1 : Hid (Kq (fun _ => True) w1 (.slice A0 l.length c0) l) := Lib.hid ((HV.out.kq (by have := (ftKs_parts HR0.out).1; omega)).le HLE1.out)
  obtain ⟨r1, hr1⟩ : ∃ r, prmB l false = r := ⟨_, rfl⟩
  go_wp2_with fail
  refine (isParams_c (fun _ => True) _ l false w1 r1 hr1 HK1.out).mono ?_
  rintro e w2 ⟨rfl, m, rfl⟩
  have HR1 := Lib.hid hr1
  have HLE2 : Hid (Le w (w1.drewN m)) := Lib.hid (HLE1.out.drewN m)
  clear hr1
  cases r1
  case false =>
    go_wp2_with fail
    refine (HKN.out _ HLE2).mono ?_
    rintro e w' ⟨rfl, hle⟩
    have HLE' := Lib.hid hle
    clear hle
    go_wp2
    go_ret
    exact ⟨rfl, HLE'.out⟩
  have HG : Hid (PrmG l) := Lib.hid (prm_k HR1.out)
  have HK2 := Lib.hid (HK1.out.le ((Le.refl w1).drewN m))
  generalize w1.drewN m = w2 at HLE2 HK2 ⊢
  go_upto_if 17 with fail
  go_cut [5] from 18 to 18 (fun s5 wc => ∃ sep : UInt8, s5 = .int .u8 (sep.toNat : Int) ∧ (sep = 59 ∨ sep = 38) ∧ w2 = wc)
  case first =>
    cases amp
    case true =>
      go_wp2
      go_meet
      case rel => exact ⟨38, rfl, .inr rfl, rfl⟩
    case false =>
      go_wp2
      go_meet
      case rel => exact ⟨59, rfl, .inl rfl, rfl⟩
  obtain ⟨sep, rfl, hsp, rfl⟩ := hcut
  have HSP := Lib.hid hsp
  have HLT : Hid (sep.toNat < 128) := Lib.hid (by rcases hsp with rfl | rfl <;> decide)
  clear hsp
  go_wp2_with fail
  refine (iPmt_c (fun _ => True) w2 _ l sep _ rfl HLT.out HK2.out HG.out.ksm (by have := HG.out.flat sep; omega)).mono ?_
  rintro e w3 ⟨v1, v2, rfl, hb1, hb2, hle3⟩
  rw [psText_pt HG.out.wd] at hb1 hb2
  have HLE3 := Lib.hid (HLE2.out.trans hle3)
  have HB1 := Lib.hid hb1
  have HB2 := Lib.hid hb2
  obtain ⟨A1, c1, rfl, _⟩ := bv_slice hb1
  obtain ⟨A2, c2, rfl, _⟩ := bv_slice hb2
  have HK3 := Lib.hid (HK2.out.le hle3)
  have HTL : Hid ((ptT l sep).length ≤ 2097152) := Lib.hid (HG.out.tlen sep)
  clear hb1 hb2 hle3
  dsimp only
  generalize (ptT l sep).length = q at HB1 HB2 HTL ⊢
  go_wp2_with fail
  refine (iParams_q w3 _ (ptT l sep) sep 63 _ 63 rfl rfl HB1.out (by have := HG.out.tlen sep; omega) HLT.out (by decide) (HL.out.le HLE3.out)).mono ?_
  rintro e w4 ⟨v4, t4, rfl, ht4, hk4, hle4⟩
  have hu := back_all HG.out HSP.out ht4
  rw [hu] at hk4
  have HK4 := Lib.hid hk4
  have HLE4 := Lib.hid (HLE3.out.trans hle4)
  have HKA := Lib.hid (HK3.out.le hle4)
  have HB14 := Lib.hid (HB1.out.le hle4)
  have HB24 := Lib.hid (HB2.out.le hle4)
  obtain ⟨A4, c4, rfl⟩ : ∃ A c, v4 = .slice A l.length c := by obtain ⟨A, c, e, _⟩ := hk4; exact ⟨A, c, e⟩
  clear hk4 ht4 hu hle4
  dsimp only
  generalize ((unm t4 sep 63 []).1 : Int) = nn
  go_wp2_with fail
  refine (pText_q _ l sep _ rfl w4 HKA.out HG.out).mono ?_
  rintro e w5 ⟨v5, rfl, hown5, hle5⟩
  have HB5 := Lib.hid (hown5.bv (by have := HG.out.tlen sep; omega))
  have HLE5 := Lib.hid (HLE4.out.trans hle5)
  have HL45 := Lib.hid hle5
  clear hown5 hle5
  go_wp2_with fail
  refine (equal_e w5 _ _ (ptT l sep) (ptT l sep) true (by simp) (HB14.out.le HL45.out) HB5.out).mono ?_
  rintro e w6 ⟨rfl, hle6⟩
  have HL46 := Lib.hid (HL45.out.trans hle6)
  have HLE6 := Lib.hid (HLE5.out.trans hle6)
  clear hle6
  go_wp2_with fail
  refine (equal_e w6 _ _ (ptT l sep) (ptT l sep) true (by simp) (HB14.out.le HL46.out) (HB24.out.le HL46.out)).mono ?_
  rintro e w7 ⟨rfl, hle7⟩
  have HL47 := Lib.hid (HL46.out.trans hle7)
  have HLE7 := Lib.hid (HLE6.out.trans hle7)
  clear hle7
  go_wp2_with fail
  refine (sameKVs_b _ (fun _ => True) w7 _ _ l l true (by simp) (HK4.out.le HL47.out) (HKA.out.le HL47.out)).mono ?_
  rintro e w8 ⟨rfl, m8, rfl⟩
  have HLE8 : Hid (Le w (w7.drewN m8)) := Lib.hid (HLE7.out.drewN m8)
  go_wp2_with fail
  refine (HKN.out _ HLE8).mono ?_
  rintro e w9 ⟨rfl, hle⟩
  have HLE9 := Lib.hid hle
  clear hle
  go_wp2
  go_ret
  exact ⟨rfl, HLE9.out⟩
end Go.Proofs.YtgelnjcjpkklbaaGreatDoor
