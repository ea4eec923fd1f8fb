/- Contract: the law FnParamsSame. -/
import Derived.Test.YtgelnjcjpkklbaaGreatDoorSEq
import Derived.Test.YtgelnjcjpkklbaaGreatDoorFnPT
set_option linter.unusedVariables false
set_option linter.unusedSimpArgs false
namespace Go.Proofs.YtgelnjcjpkklbaaGreatDoor
open Go.RowKit

theorem EqR.uniq {a b : KVs} {r s : Bool} (h : EqR a b r) (k : EqR a b s) : r = s := by
  unfold EqR at h k
  cases r <;> cases s
  · rfl
  · exact (h.2 (k.1 rfl)).symm ▸ rfl
  · exact (k.2 (h.1 rfl)).symm ▸ rfl
  · rfl
set_option maxRecDepth 8000 in
set_option maxHeartbeats 4000000 in
theorem fnParamsSame_c (w : World) (va vb : Value) (la lb : KVs) (ha : Kw w va la) (hb : Kw w vb lb) (hL : Laid w) :
    Calls Tryz.prog 7 #[va, vb] w fun e w' => e = .returned (.bool true) ∧ Le w w' := by
  have HA := Lib.hid ha
  have HB := Lib.hid hb
  have HL := Lib.hid hL
  obtain ⟨A0, c0, rfl⟩ := ha.form
  obtain ⟨A1, c1, rfl⟩ := hb.form
  clear ha hb hL
  have KN : ∀ (W : World), Hid (Le w W) → Calls Tryz.prog 14 #[] W fun e w' => e = .returned (.bool true) ∧ Le w w' := fun W hW => (known_c W (HL.out.le hW.out)).mono fun e w' ⟨h1, h2⟩ => ⟨h1, hW.out.trans h2⟩
  have HKN := Lib.hid KN
  clear KN
  go_enter Tryz.func7, Tryz.ntmps7
  go_wp2_with fail
  obtain ⟨r0, hr0⟩ : ∃ r, ftKs la = r := ⟨_, rfl⟩
  refine (zzFits3_c w _ la r0 hr0 HA.out).mono ?_
  rintro e w1 ⟨rfl, hle1⟩
  have HR0 := Lib.hid hr0
  have HLE1 := Lib.hid hle1
  clear hr0 hle1
  cases r0
  case false =>
    go_wp2
    go_ret
    exact ⟨rfl, HLE1.out⟩
  go_wp2_with fail
  obtain ⟨r1, hr1⟩ : ∃ r, ftKs lb = r := ⟨_, rfl⟩
  refine (zzFits3_c w1 _ lb r1 hr1 (HB.out.le HLE1.out)).mono ?_
  rintro e w2 ⟨rfl, hle2⟩
  have HR1 := Lib.hid hr1
  have HLE2 := Lib.hid (HLE1.out.trans hle2)
  clear hr1 hle2
  cases r1
  case false =>
    go_wp2
    go_ret
    exact ⟨rfl, HLE2.out⟩
  have HKA : Hid (Kq (fun _ => True) w2 (.slice A0 la.length c0) la) := Lib.hid ((HA.out.kq (by have := (ftKs_parts HR0.out).1; omega)).le HLE2.out)
  have HKB : Hid (Kq (fun _ => True) w2 (.slice A1 lb.length c1) lb) := Lib.hid ((HB.out.kq (by have := (ftKs_parts HR1.out).1; omega)).le HLE2.out)
  go_upto_region 3 with fail
  go_cut [30] from 15 to 30 (fun s30 wc => ∃ g : Bool, s30 = .bool g ∧ Le w2 wc ∧ (g = false → Lit8 la ∧ Lit8 lb))
  case first =>
    go_wp2_with fail
    refine (heavy_c (fun _ => True) _ la w2 HKA.out).mono ?_
    rintro e w3 ⟨n, rfl, hn, hnb, hle3⟩
    have HLE3 := Lib.hid hle3
    clear hle3
    go_wp2_with fail
    refine (heavy_c (fun _ => True) _ lb w3 (HKB.out.le HLE3.out)).mono ?_
    rintro e w4 ⟨m, rfl, hm, hmb, hle4⟩
    have HLE4 := Lib.hid (HLE3.out.trans hle4)
    clear hle4
    have hnb' : (n : Int) ≤ 1125899906842624 := by omega
    have hmb' : (m : Int) ≤ 1125899906842624 := by omega
    clear hnb hmb
    by_cases t1 : 8192 < n + m
    · have t1' : decide ((8192 : Int) < (n : Int) + (m : Int)) = true := decide_eq_true (by omega)
      clear hn hm t1
      go_wp2
      go_meet
      case rel => exact ⟨true, rfl, HLE4.out, fun h => by cases h⟩
    have t1' : decide ((8192 : Int) < (n : Int) + (m : Int)) = false := decide_eq_false (by omega)
    have HLA := Lib.hid (lit8 (Nat.le_trans (hn (by omega)) (by omega)))
    have HLB := Lib.hid (lit8 (Nat.le_trans (hm (by omega)) (by omega)))
    clear hn hm t1
    by_cases t2 : 64 < la.length
    · have t2' : decide ((64 : Int) < (la.length : Int)) = true := decide_eq_true (by omega)
      clear t2
      go_wp2
      go_meet
      case rel => exact ⟨true, rfl, HLE4.out, fun h => by cases h⟩
    have t2' : decide ((64 : Int) < (la.length : Int)) = false := decide_eq_false (by omega)
    clear t2
    by_cases t3 : 64 < lb.length
    · have t3' : decide ((64 : Int) < (lb.length : Int)) = true := decide_eq_true (by omega)
      clear t3
      go_wp2
      go_meet
      case rel => exact ⟨true, rfl, HLE4.out, fun h => by cases h⟩
    have t3' : decide ((64 : Int) < (lb.length : Int)) = false := decide_eq_false (by omega)
    clear t3
    go_wp2
    go_meet
    case rel => exact ⟨false, rfl, HLE4.out, fun _ => ⟨HLA.out, HLB.out⟩⟩
  obtain ⟨g, rfl, hle, hgood⟩ := hcut
  have HLE := Lib.hid (HLE2.out.trans hle)
  have HKAc := Lib.hid (HKA.out.le hle)
  have HKBc := Lib.hid (HKB.out.le hle)
  have HGD := Lib.hid hgood
  clear hle hgood
  cases g
  case true =>
    go_wp2_with fail
    refine (HKN.out _ HLE).mono ?_
    rintro e w' ⟨rfl, hle⟩
    have HLE' := Lib.hid hle
    clear hle
    go_wp2
    go_ret
    exact ⟨rfl, HLE'.out⟩
  have HGA := Lib.hid (HGD.out rfl).1
  have HGB := Lib.hid (HGD.out rfl).2
  clear HGD
  go_wp2_with fail
  refine (kvsOf_c _ _ la wc wc (Le.refl wc) HKAc.out).mono ?_
  rintro e w3 ⟨v3, rfl, hkr, hle3⟩
  have HK3 := Lib.hid (hkr.kq hle3 (by have := HGA.out.len; omega))
  have HLE3 := Lib.hid (HLE.out.trans hle3)
  have HL3 := Lib.hid hle3
  clear hkr hle3
  go_wp2_with fail
  refine (kvsOf_c _ _ lb w3 w3 (Le.refl w3) (HKBc.out.le HL3.out)).mono ?_
  rintro e w4 ⟨v4, rfl, hkr, hle4⟩
  have HK4 := Lib.hid (hkr.kq hle4 (by have := HGB.out.len; omega))
  have HK3' := Lib.hid (HK3.out.le hle4)
  have HLE4 := Lib.hid (HLE3.out.trans hle4)
  have HL4 := Lib.hid (HL3.out.trans hle4)
  clear hkr hle4
  go_wp2_with fail
  refine (sPEq_c (fun _ => True) (fun _ => True) w4 _ _ la lb HK3'.out HK4.out).mono ?_
  rintro e w5 ⟨hle5, hres⟩
  have HLE5 := Lib.hid (HLE4.out.trans hle5)
  have HL5 := Lib.hid (HL4.out.trans hle5)
  clear hle5
  rcases hres with ⟨r, rfl, hda, hdb, hr⟩ | ⟨r, rfl⟩
  · have HDA := Lib.hid hda
    have HR := Lib.hid hr
    clear hda hdb hr
    go_wp2_with fail
    refine (iEq_c (fun _ => True) (fun _ => True) w5 _ _ la lb (HKAc.out.le HL5.out) (HKBc.out.le HL5.out) HGA.out.ksm HGB.out.ksm HDA.out).mono ?_
    rintro e w6 ⟨s, rfl, hs, hle6⟩
    have HLE6 := Lib.hid (HLE5.out.trans hle6)
    obtain rfl : s = r := hs.uniq HR.out
    clear hs hle6
    cases s
    all_goals
      go_wp2_with fail
      refine (HKN.out _ HLE6).mono ?_
      rintro e w' ⟨rfl, hle⟩
      have HLE' := Lib.hid hle
      clear hle
      go_wp2
      go_ret
      exact ⟨rfl, HLE'.out⟩
  · go_wp2_with fail
    refine (HKN.out _ HLE5).mono ?_
    rintro e w' ⟨rfl, hle⟩
    have HLE' := Lib.hid hle
    clear hle
    go_wp2
    go_ret
    exact ⟨rfl, HLE'.out⟩
end Go.Proofs.YtgelnjcjpkklbaaGreatDoor
