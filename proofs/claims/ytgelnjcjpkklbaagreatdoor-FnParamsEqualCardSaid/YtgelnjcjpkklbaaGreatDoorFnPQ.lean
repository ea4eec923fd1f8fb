/- Contract: the law FnParamsEqual. -/
import Derived.Test.YtgelnjcjpkklbaaGreatDoorQpl
import Derived.Test.YtgelnjcjpkklbaaGreatDoorKeys
import Derived.Test.YtgelnjcjpkklbaaGreatDoorFnPD
import Derived.BigQuiet
set_option linter.unusedVariables false
set_option linter.unusedSimpArgs false
namespace Go.Proofs.YtgelnjcjpkklbaaGreatDoor
open Go.RowKit

structure GoodPQ (a b : KVs) : Prop where
  al : a.length ≤ 64
  bl : b.length ≤ 64
  aa : apB a = true
  ba : apB b = true
set_option maxRecDepth 100000 in
set_option maxHeartbeats 8000000 in
theorem fnParamsEqual_c (w : World) (va vb : Value) (la lb : KVs) (turn : Int) (ha : Kw w va la) (hb : Kw w vb lb) (ht : IntKind.i64.min ≤ turn ∧ turn ≤ IntKind.i64.max) (hL : Laid w) :
    Calls Tryz.prog 10 #[va, vb, .int .i64 turn] w fun e w' => e = .returned (.bool true) ∧ Le w w' := by
  have HA := Lib.hid ha
  have HB := Lib.hid hb
  have HL := Lib.hid hL
  obtain ⟨A0, c0, rfl⟩ := ha.form
  obtain ⟨A1, c1, rfl⟩ := hb.form
  clear ha hb hL ht
  have KN : ∀ (W : World), Hid (Le w W) → Calls Tryz.prog 14 #[] W fun e w' => e = .returned (.bool true) ∧ Le w w' := fun W hW => (known_c W (HL.out.le hW.out)).mono fun e w' ⟨h1, h2⟩ => ⟨h1, hW.out.trans h2⟩
  have HKN := Lib.hid KN
  clear KN
  obtain ⟨i0, hi0, hz0, hz1, hz2⟩ := info_parts ikv_info
  go_enter Tryz.func10, Tryz.ntmps10
  go_wp2_with fail
  obtain ⟨r0, hr0⟩ : ∃ r, ftKs la = r := ⟨_, rfl⟩
  refine (zzFits3_c w _ la r0 hr0 HA.out).mono ?_
  rintro e w1 ⟨rfl, hle1⟩
  have HR0 := Lib.hid hr0
  have HLE1 := Lib.hid hle1
  clear hr0 hle1
  cases r0
  case false =>
    go_wp2
    go_ret
    exact ⟨rfl, HLE1.out⟩
  go_wp2_with fail
  obtain ⟨r1, hr1⟩ : ∃ r, ftKs lb = r := ⟨_, rfl⟩
  refine (zzFits3_c w1 _ lb r1 hr1 (HB.out.le HLE1.out)).mono ?_
  rintro e w2 ⟨rfl, hle2⟩
  have HR1 := Lib.hid hr1
  have HLE2 := Lib.hid (HLE1.out.trans hle2)
  clear hr1 hle2
  cases r1
  case false =>
    go_wp2
    go_ret
    exact ⟨rfl, HLE2.out⟩
  have HKA : Hid (Kq (fun _ => True) w (.slice A0 la.length c0) la) := Lib.hid (HA.out.kq (by have := (ftKs_parts HR0.out).1; omega))
  have HKB : Hid (Kq (fun _ => True) w (.slice A1 lb.length c1) lb) := Lib.hid (HB.out.kq (by have := (ftKs_parts HR1.out).1; omega))
  have HSA := Lib.hid (ftKs_parts HR0.out)
  have HSB := Lib.hid (ftKs_parts HR1.out)
  clear HR0 HR1
  go_upto_region 3 with fail
  go_cut [42] from 25 to 42 (fun s42 wc => ∃ g : Bool, s42 = .bool g ∧ Le w wc ∧ (g = false → GoodPQ la lb))
  case first =>
    by_cases t1 : 64 < la.length
    · have t1' : decide ((64 : Int) < (la.length : Int)) = true := decide_eq_true (by omega)
      clear t1
      go_wp2
      go_meet
      case rel => exact ⟨true, rfl, HLE2.out, fun h => by cases h⟩
    have t1' : decide ((64 : Int) < (la.length : Int)) = false := decide_eq_false (by omega)
    have HT1 : Hid (la.length ≤ 64) := Lib.hid (by omega)
    clear t1
    by_cases t2 : 64 < lb.length
    · have t2' : decide ((64 : Int) < (lb.length : Int)) = true := decide_eq_true (by omega)
      clear t2
      go_wp2
      go_meet
      case rel => exact ⟨true, rfl, HLE2.out, fun h => by cases h⟩
    have t2' : decide ((64 : Int) < (lb.length : Int)) = false := decide_eq_false (by omega)
    have HT2 : Hid (lb.length ≤ 64) := Lib.hid (by omega)
    clear t2
    go_wp2_with fail
    obtain ⟨r2, hr2⟩ : ∃ r, apB la = r := ⟨_, rfl⟩
    refine (isOnce_c (fun _ => True) _ la w2 r2 hr2 (HKA.out.le HLE2.out)).mono ?_
    rintro e w3 ⟨rfl, m, rfl⟩
    have HR2 := Lib.hid hr2
    have HLE3 : Hid (Le w (w2.drewN m)) := Lib.hid (HLE2.out.drewN m)
    clear hr2
    generalize w2.drewN m = w3 at HLE3 ⊢
    cases r2
    case false =>
      go_wp2
      go_meet
      case rel => exact ⟨true, rfl, HLE3.out, fun h => by cases h⟩
    go_wp2_with fail
    obtain ⟨r3, hr3⟩ : ∃ r, apB lb = r := ⟨_, rfl⟩
    refine (isOnce_c (fun _ => True) _ lb w3 r3 hr3 (HKB.out.le HLE3.out)).mono ?_
    rintro e w4 ⟨rfl, m4, rfl⟩
    have HR3 := Lib.hid hr3
    have HLE4 : Hid (Le w (w3.drewN m4)) := Lib.hid (HLE3.out.drewN m4)
    clear hr3
    cases r3
    case false =>
      go_wp2
      go_meet
      case rel => exact ⟨true, rfl, HLE4.out, fun h => by cases h⟩
    go_wp2
    go_meet
    case rel => exact ⟨false, rfl, HLE4.out, fun _ => ⟨HT1.out, HT2.out, HR2.out, HR3.out⟩⟩
  obtain ⟨g, rfl, hle, hgood⟩ := hcut
  have HLE := Lib.hid hle
  have HGD := Lib.hid hgood
  clear hle hgood
  cases g
  case true =>
    go_wp2_with fail
    refine (HKN.out _ HLE).mono ?_
    rintro e w' ⟨rfl, hle⟩
    have HLE' := Lib.hid hle
    clear hle
    go_wp2
    go_ret
    exact ⟨rfl, HLE'.out⟩
  have HG := Lib.hid (HGD.out rfl)
  clear HGD HLE1 HLE2
  have ha64 := HG.out.al
  have hb64 := HG.out.bl
  have HDA := Lib.hid (dk_of_ap HG.out.aa)
  have HDB := Lib.hid (dk_of_ap HG.out.ba)
  go_wp2
  go_loopg [7] (la.length) (fun n i wr => ∃ k : Nat, n + k = la.length ∧ i = .int .i64 k ∧ Le w wr)
  case atStart => exact ⟨0, by omega, rfl, HLE.out⟩
  case round =>
    obtain ⟨k, hn, rfl, hle⟩ := hrel
    have HL1 := Lib.hid hle
    have HN : gk + k ≤ la.length ∧ la.length ≤ gk + k := by omega
    clear hn hle
    by_cases hlt : k < la.length
    · obtain ⟨g, o, rfl, x, y, d1, d2, X, Y⟩ := HA.out.at_ hlt
      have e1 := HL1.out.cell d1
      obtain ⟨Ax, cx, rfl⟩ := X.out.form
      clear d1 d2
      obtain ⟨r3, hr3⟩ : ∃ r, lowB la[k].1 = r := ⟨_, rfl⟩
      have HR3 := Lib.hid hr3
      clear hr3
      go_wp2_with fail
      refine (isLow_c _ la[k].1 wr r3 HR3.out (X.out.le HL1.out)).mono ?_
      rintro e w' ⟨rfl, rfl⟩
      cases r3
      case false =>
        go_wp2_with fail
        refine (HKN.out _ HL1).mono ?_
        rintro e w' ⟨rfl, hle⟩
        have HLE' := Lib.hid hle
        clear hle
        go_wp2
        go_ret
        exact ⟨rfl, HLE'.out⟩
      go_wp2
      go_roundg (gk - 1)
      case measure => omega
      case rel => exact ⟨k + 1, by omega, by go_num, HL1.out⟩
    · go_wp2
      rename World => wk
      obtain ⟨wo, hwo⟩ : ∃ wo : World, wo = wk := ⟨_, rfl⟩
      clear hwo
      go_loopg [8] (lb.length) (fun n i wr => ∃ k : Nat, n + k = lb.length ∧ i = .int .i64 k ∧ Le w wr)
      case atStart => exact ⟨0, by omega, rfl, HL1.out⟩
      case round =>
        rename World => wr
        obtain ⟨k, hn, rfl, hle⟩ := hrel
        have HL2 := Lib.hid hle
        have HN2 : gk + k ≤ lb.length ∧ lb.length ≤ gk + k := by omega
        clear hn hle
        by_cases hlt2 : k < lb.length
        · obtain ⟨g, o, rfl, x, y, d1, d2, X, Y⟩ := HB.out.at_ hlt2
          have e1 := HL2.out.cell d1
          obtain ⟨Ax, cx, rfl⟩ := X.out.form
          clear d1 d2
          obtain ⟨r3, hr3⟩ : ∃ r, lowB lb[k].1 = r := ⟨_, rfl⟩
          have HR3 := Lib.hid hr3
          clear hr3
          go_wp2_with fail
          refine (isLow_c _ lb[k].1 wr r3 HR3.out (X.out.le HL2.out)).mono ?_
          rintro e w' ⟨rfl, rfl⟩
          cases r3
          case false =>
            go_wp2_with fail
            refine (HKN.out _ HL2).mono ?_
            rintro e w' ⟨rfl, hle⟩
            have HLE' := Lib.hid hle
            clear hle
            go_wp2
            go_ret
            exact ⟨rfl, HLE'.out⟩
          go_wp2
          go_roundg (gk - 1)
          case measure => omega
          case rel => exact ⟨k + 1, by omega, by go_num, HL2.out⟩
        · obtain ⟨sb, hsb⟩ : ∃ b, ((la.length : Int) == (lb.length : Int)) = b := ⟨_, rfl⟩
          have HSM : Hid (smK la lb 0 = sb) := Lib.hid (by
            rw [← hsb]; unfold smK
            rw [List.take_zero, List.all_nil, Bool.and_true]
            by_cases e : la.length = lb.length
            · rw [decide_eq_true e]; symm; rw [beq_iff_eq]; omega
            · rw [decide_eq_false e]; symm; rw [beq_eq_false_iff_ne]; omega)
          go_wp2
          clear hsb
          rename World => wk
          obtain ⟨wo, hwo⟩ : ∃ wo : World, wo = wk := ⟨_, rfl⟩
          clear hwo
          go_loopg [9, 10] (la.length) (fun n s i wr => ∃ k : Nat, n + k = la.length ∧ i = .int .i64 k ∧ s = .bool (smK la lb k) ∧ Le w wr)
          case atStart => exact ⟨0, by omega, rfl, by rw [HSM.out], HL2.out⟩
          case round =>
            rename World => wr
            obtain ⟨k, hn, rfl, rfl, hle⟩ := hrel
            have HL3 := Lib.hid hle
            have HN3 : gk + k ≤ la.length ∧ la.length ≤ gk + k := by omega
            clear hn hle
            obtain ⟨sb2, hsb2⟩ : ∃ b, smK la lb k = b := ⟨_, rfl⟩
            rw [hsb2]
            have HS2 := Lib.hid hsb2
            clear hsb2
            go_upto_region 17 with fail
            go_cut [83] from 77 to 83 (fun s83 wc => ∃ b : Bool, s83 = .bool b ∧ wc = wr ∧ (b = true → k < la.length ∧ sb2 = true) ∧ (b = false → sb2 = smB la lb))
            case first =>
              by_cases hlt : k < la.length
              · cases sb2
                case true =>
                  go_wp2
                  go_meet
                  case rel => exact ⟨true, rfl, rfl, fun _ => ⟨hlt, by trivial⟩, fun h => by cases h⟩
                case false =>
                  have HF := Lib.hid (smK_false HS2.out)
                  go_wp2
                  go_meet
                  case rel => exact ⟨false, rfl, rfl, (fun h => by cases h), fun _ => HF.out.symm⟩
              · have HF : Hid (sb2 = smB la lb) := Lib.hid (by rw [← HS2.out, show k = la.length from by omega, smK_all])
                cases sb2
                all_goals
                  go_wp2
                  go_meet
                  case rel => exact ⟨false, rfl, rfl, (fun h => by cases h), fun _ => HF.out⟩
            obtain ⟨b, rfl, rfl, hb1, hb2⟩ := hcut
            have HB1 := Lib.hid hb1
            have HB2 := Lib.hid hb2
            clear hb1 hb2
            cases b
            case true =>
              have hlt := (HB1.out rfl).1
              obtain rfl := (HB1.out rfl).2
              obtain ⟨ga, oa, rfl, x1, x2, d1, d2, X1, X2⟩ := HA.out.at_ hlt
              have D1 := Lib.hid d1
              have D2 := Lib.hid d2
              clear d1 d2
              have HGO : ∃ go : Nat, go = gk ∧ go + k ≤ la.length ∧ la.length ≤ go + k := ⟨gk, rfl, HN3⟩
              clear HN3
              obtain ⟨go, hgo, HN3⟩ := HGO
              have HGK : Hid (go ≤ gk ∧ gk ≤ go) := Lib.hid (by omega)
              clear hgo
              go_wp2
              rename World => wr
              obtain ⟨wo, hwo⟩ : ∃ wo : World, wo = wr := ⟨_, rfl⟩
              clear hwo
              go_loopg [11, 12] (lb.length) (fun n f i wx => ∃ j : Nat, n + j = lb.length ∧ i = .int .i64 j ∧ f = .bool (inB (lb.take j) la[k]) ∧ Le w wx)
              case atStart => exact ⟨0, by omega, rfl, rfl, HL3.out⟩
              case round =>
                rename World => wx
                obtain ⟨j, hn, rfl, rfl, hle⟩ := hrel
                have HL4 := Lib.hid hle
                have HN4 : gk + j ≤ lb.length ∧ lb.length ≤ gk + j := by omega
                clear hn hle
                by_cases hjl : j < lb.length
                · obtain ⟨gb, ob, rfl, y1, y2, e1, e2, Y1, Y2⟩ := HB.out.at_ hjl
                  have f1 := HL4.out.cell e1
                  have f2 := HL4.out.cell e2
                  have c1 := HL4.out.cell D1.out
                  have c2 := HL4.out.cell D2.out
                  have HIN : Hid (inB (lb.take (j + 1)) la[k] = (inB (lb.take j) la[k] || (decide (la[k].1 = lb[j].1) && decide (la[k].2 = lb[j].2)))) := Lib.hid (by
                    unfold inB
                    rw [List.take_succ_eq_append_getElem hjl, List.any_append]
                    simp)
                  have Z1 := Lib.hid (X1.out.le HL4.out)
                  have Z2 := Lib.hid (X2.out.le HL4.out)
                  have V1 := Lib.hid (Y1.out.le HL4.out)
                  have V2 := Lib.hid (Y2.out.le HL4.out)
                  clear e1 e2
                  generalize inB (lb.take j) la[k] = fb at HIN ⊢
                  obtain ⟨k1, hk1⟩ : ∃ b, decide (la[k].1 = lb[j].1) = b := ⟨_, rfl⟩
                  obtain ⟨k2, hk2⟩ : ∃ b, decide (la[k].2 = lb[j].2) = b := ⟨_, rfl⟩
                  rw [hk1, hk2] at HIN
                  have HK1 := Lib.hid hk1
                  have HK2 := Lib.hid hk2
                  clear hk1 hk2
                  cases fb
                  case true =>
                    go_wp2
                    go_quiet (fail)
                    go_wp2
                    go_roundg (gk - 1)
                    case measure => omega
                    case rel => exact ⟨j + 1, by omega, by go_num, by rw [HIN.out]; rfl, HL4.out.drewN _⟩
                  case false =>
                    cases k1
                    case false =>
                      go_wp2
                      go_quiet ((go_at_call 17; exact Calls.quiet_of (equal_b _ _ _ _ _ _ HK1.out (Z1.out.dn _) (V1.out.dn _))))
                      go_wp2
                      go_roundg (gk - 1)
                      case measure => omega
                      case rel => exact ⟨j + 1, by omega, by go_num, by rw [HIN.out]; rfl, HL4.out.drewN _⟩
                    case true =>
                      go_wp2
                      go_quiet ((go_at_call 17; first | exact Calls.quiet_of (equal_b _ _ _ _ _ _ HK1.out (Z1.out.dn _) (V1.out.dn _)) | exact Calls.quiet_of (equal_b _ _ _ _ _ _ HK2.out (Z2.out.dn _) (V2.out.dn _))))
                      go_wp2
                      go_roundg (gk - 1)
                      case measure => omega
                      case rel => exact ⟨j + 1, by omega, by go_num, by rw [HIN.out]; cases k2 <;> rfl, HL4.out.drewN _⟩
                · have HE : Hid (inB (lb.take j) la[k] = smK la lb (k + 1)) := Lib.hid (by rw [smK_succ hlt, HS2.out, List.take_of_length_le (by omega)]; simp)
                  rw [HE.out]
                  go_wp2
                  go_roundg (go - 1)
                  case measure => have := HGK.out; omega
                  case rel => exact ⟨k + 1, by omega, by go_num, rfl, HL4.out⟩
            case false =>
              have HSB2 := Lib.hid (HB2.out rfl)
              clear HB1 HB2 HS2
              obtain ⟨t, htu, htm⟩ : ∃ t : Nat, IntKind.u64.wrap turn = (t : Int) ∧ t ≤ 18446744073709551615 := by
                rw [IntKind.wrap_u64]
                exact ⟨(turn % 18446744073709551616).toNat, by omega, by omega⟩
              go_wp2
              rename World => wk
              obtain ⟨wo, hwo⟩ : ∃ wo : World, wo = wk := ⟨_, rfl⟩
              clear hwo
              go_loopg [13, 14] (la.length) (fun n sv i wr => ∃ (k : Nat) (xs : List Value), n + k = la.length ∧ i = .int .i64 k ∧ Le w wr ∧ wr.ownsRow w.heap.size 39 2 sv k xs ∧ PAll w xs ((rotK la (t % la.length)).take k))
              case atStart => exact ⟨0, [], by omega, rfl, HL3.out, World.ownsRow_nil _ _ _ _, PAll.nil _⟩
              case round =>
                rename World => wr
                obtain ⟨m, xs, hn, rfl, hle, hown, hpa⟩ := hrel
                have HO := Lib.hid hown
                have HL4 := Lib.hid hle
                have HPA := Lib.hid hpa
                have HN4 : gk + m ≤ la.length ∧ la.length ≤ gk + m := by omega
                have hsz := hle.size
                clear hn hown hpa hle
                by_cases hml : m < la.length
                · have hlp : 0 < la.length := by omega
                  have ht1 : t % la.length < la.length := Nat.mod_lt _ hlp
                  obtain ⟨q, hq⟩ : ∃ q, q = (t + m) % la.length := ⟨_, rfl⟩
                  have hql : q < la.length := by rw [hq]; exact Nat.mod_lt _ hlp
                  have hqw : wrap64 ((IntKind.u64.wrap ((t : Int) % (la.length : Int) + (m : Int))).tmod (la.length : Int)) = (q : Int) := by
                    have e0 : (t : Int) % (la.length : Int) = ((t % la.length : Nat) : Int) := (Int.natCast_emod _ _).symm
                    have e1 : IntKind.u64.wrap (((t % la.length : Nat) : Int) + (m : Int)) = ((t % la.length + m : Nat) : Int) := by rw [IntWalk.u64_in _ (by omega), Int.natCast_add]
                    have e2 : ((t % la.length + m : Nat) : Int).tmod (la.length : Int) = ((q : Nat) : Int) := by rw [hq, ← Nat.mod_add_mod]; rfl
                    rw [e0, e1, e2]
                    exact IntWalk.wrap64_in _ (by omega)
                  have hrl : (rotK la (t % la.length)).length = la.length := rotK_len _ _
                  have hrot : (rotK la (t % la.length))[m]? = some la[q] := by
                    rw [rotK_get? ht1 hml, Nat.mod_add_mod, ← hq, List.getElem?_eq_getElem hql]
                  obtain ⟨ga, oa, rfl, x, y, d1, d2, X, Y⟩ := HA.out.at_ hql
                  have d1 := HL4.out.cell d1
                  have d2 := HL4.out.cell d2
                  have HPA2 : Hid (PAll w (xs ++ [x, y]) ((rotK la (t % la.length)).take (m + 1))) := Lib.hid (by
                    rw [List.take_succ_eq_append_getElem (by rw [hrl]; exact hml)]
                    have e : (rotK la (t % la.length))[m]'(by rw [hrl]; exact hml) = la[q] := by
                      rw [List.getElem?_eq_getElem (by rw [hrl]; exact hml)] at hrot
                      exact Option.some.inj hrot
                    rw [e]
                    exact HPA.out.snoc X.out Y.out)
                  have hx1 := X.out.oneU
                  have hy1 := Y.out.oneU
                  clear hq hrl hrot ht1
                  go_wp2_with ((at_builtin; refine wpList_append_lies _ rfl _ _ 23 rfl w.heap.size 39 i0 (.agg #[.slice none 0 0, .slice none 0 0]) 2 48 Tryz.underlying23 hi0 hz0 hz1 hz2 rfl (by decide) _ _ _ rfl (HO.out.alloc _) ⟨wr.heap.size, 0, none⟩ 1 1 [x, y] rfl rfl ?c1 ?c2 ?c3 ?c4 ?c5 ?c6 (wr.heap.size + 1) ?c7 ?_))
                  case c1 => exact World.news_of_block (heap_alloc_new wr _)
                  case c2 => intro u hu; simp only [List.mem_cons, List.mem_nil_iff, or_false] at hu; rcases hu with rfl | rfl <;> assumption
                  case c3 => omega
                  case c4 => unfold maxLen; omega
                  case c5 => omega
                  case c6 => simp; omega
                  case c7 => simp
                  intro g2 cap2 w2 hown2 hgrow2 hat2 hlt2
                  have HLE2 : Hid (Le w w2) := Lib.hid (Below.grown' (HL4.out.alloc _) hgrow2 (Nat.le_refl _) (fun g hg => (own_row' HO.out g hg).1))
                  have HO2 := Lib.hid hown2
                  clear hown2 hgrow2 hat2 hlt2 d1 d2
                  go_wp2
                  go_roundg (gk - 1)
                  case measure => omega
                  case rel => exact ⟨m + 1, _, by omega, by go_num, HLE2.out, HO2.out, HPA2.out⟩
                · obtain rfl : m = la.length := by omega
                  have hrl := rotK_len la (t % la.length)
                  have HKT : Hid (Kq (fun _ => True) wr u13 (rotK la (t % la.length))) := Lib.hid (by
                    have h := HPA.out
                    rw [List.take_of_length_le (by rw [hrl]; exact Nat.le_refl _)] at h
                    exact Kq.of_row (by rw [hrl]; exact HO.out) h HL4.out (by rw [hrl]; omega))
                  have HRT := Lib.hid (eq_rot HDA.out (t % la.length))
                  have HRS : Hid (KSm 1099511627775 (rotK la (t % la.length))) := Lib.hid ⟨by rw [hrl]; omega, fun x hx => by
                    have : x ∈ la := by
                      unfold rotK at hx
                      rcases List.mem_append.1 hx with h | h
                      · exact List.mem_of_mem_drop h
                      · exact List.mem_of_mem_take h
                    have := HSA.out.2 x this
                    omega⟩
                  have HKS : Hid (KSm 1099511627775 la) := Lib.hid ⟨by omega, fun x hx => by have := HSA.out.2 x hx; omega⟩
                  have HKS2 : Hid (KSm 1099511627775 lb) := Lib.hid ⟨by omega, fun x hx => by have := HSB.out.2 x hx; omega⟩
                  have HS1 : Hid (EqR la lb sb2) := Lib.hid (by rw [HSB2.out]; exact eq_smB HDA.out HDB.out)
                  have HS2 : Hid (EqR lb la sb2) := Lib.hid (by rw [HSB2.out, ← smB_sym HDA.out HDB.out]; exact eq_smB HDB.out HDA.out)
                  generalize rotK la (t % la.length) = rt at HKT HRT HRS hrl
                  obtain ⟨A13, c13, rfl⟩ : ∃ A c, u13 = .slice A rt.length c := by obtain ⟨A, c, e, _⟩ := HKT.out; exact ⟨A, c, e⟩
                  clear hrl HSB2 HO HPA htu htm
                  go_wp2_with fail
                  refine (iKeys_c (fun _ => True) wr _ la (HKA.out.le HL4.out) HDA.out HKS.out.2 (by omega)).mono ?_
                  rintro e w5 ⟨kv, ys, rfl, hown, hbr, hle5⟩
                  have HO5 := Lib.hid hown
                  have HB5 := Lib.hid hbr
                  have HL5 := Lib.hid (HL4.out.trans hle5)
                  have HKT5 := Lib.hid (HKT.out.le hle5)
                  obtain ⟨A15, c15, rfl⟩ : ∃ A c, kv = .slice A la.length c := by
                    rcases hown.2 with ⟨e, hn⟩ | ⟨g, cap, cur, e, _⟩
                    · exact ⟨none, 0, by rw [e, hn]⟩
                    · exact ⟨_, _, e⟩
                  have hnn : ((la.length : Int) != (la.length : Int)) = false := by simp
                  clear hown hbr hle5 HKT
                  go_wp2
                  rename World => wk
                  obtain ⟨wo, hwo⟩ : ∃ wo : World, wo = wk := ⟨_, rfl⟩
                  clear hwo
                  go_loopg [16] (la.length) (fun n i wr => ∃ k : Nat, n + k = la.length ∧ i = .int .i64 k ∧ Le wk wr)
                  case atStart => exact ⟨0, by omega, rfl, Le.refl _⟩
                  case round =>
                    rename World => wr
                    obtain ⟨m, hn, rfl, hle⟩ := hrel
                    have HL6 := Lib.hid hle
                    have HN6 : gk + m ≤ la.length ∧ la.length ≤ gk + m := by omega
                    clear hn hle
                    by_cases hml : m < la.length
                    · obtain ⟨ga, oa, rfl, x, y, d1, d2, X, Y⟩ := HA.out.at_ hml
                      have d1 := (HL5.out.trans HL6.out).cell d1
                      obtain ⟨z, hz, hzb⟩ := HB5.out.2 m (by rw [List.length_map]; exact hml)
                      rw [List.getElem_map] at hzb
                      have h0 := HO5.out
                      rcases h0.2 with ⟨_, hn0⟩ | ⟨gk2, cap2, cur2, hv2, _⟩
                      · omega
                      injection hv2 with hv2 _ hv3
                      subst hv2
                      subst hv3
                      have k1 := h0.cells (g := gk2) rfl m z hz
                      rw [add_adr, Nat.zero_add] at k1
                      have k1 := HL6.out.cell k1
                      have XX := Lib.hid (X.out.le (HL5.out.trans HL6.out))
                      have ZZ := Lib.hid (hzb.1.le HL6.out)
                      obtain ⟨Ax, cx, rfl⟩ := X.out.form
                      obtain ⟨Az, cz, rfl⟩ := ZZ.out.form
                      clear d2 hz hzb h0
                      go_wp2
                      go_quiet ((go_at_call 17; exact Calls.quiet_of (equal_b _ _ _ _ _ true (by simp) (ZZ.out.dn _) (XX.out.dn _))))
                      go_wp2
                      go_roundg (gk - 1)
                      case measure => omega
                      case rel => exact ⟨m + 1, by omega, by go_num, HL6.out.drewN _⟩
                    · have HL7 := Lib.hid (HL5.out.trans HL6.out)
                      have HKT7 := Lib.hid (HKT5.out.le HL6.out)
                      go_wp2_with fail
                      refine (iEq_c (fun _ => True) (fun _ => True) wr _ _ la lb (HKA.out.le HL7.out) (HKB.out.le HL7.out) HKS.out HKS2.out HDA.out).mono ?_
                      rintro e w8 ⟨s, rfl, hs, hle8⟩
                      obtain rfl : s = sb2 := hs.one HS1.out
                      have HL8 := Lib.hid (HL7.out.trans hle8)
                      have HKT8 := Lib.hid (HKT7.out.le hle8)
                      clear hs hle8
                      cases s
                      all_goals
                        go_wp2_with fail
                        refine (iEq_c (fun _ => True) (fun _ => True) w8 _ _ lb la (HKB.out.le HL8.out) (HKA.out.le HL8.out) HKS2.out HKS.out HDB.out).mono ?_
                        rintro e w9 ⟨s2, rfl, hs2, hle9⟩
                        obtain rfl := hs2.one HS2.out
                        have HL9 := Lib.hid (HL8.out.trans hle9)
                        have HKT9 := Lib.hid (HKT8.out.le hle9)
                        clear hs2 hle9
                        go_wp2_with fail
                        refine (iEq_c (fun _ => True) (fun _ => True) w9 _ _ la rt (HKA.out.le HL9.out) HKT9.out HKS.out HRS.out HDA.out).mono ?_
                        rintro e w10 ⟨s3, rfl, hs3, hle10⟩
                        obtain rfl := hs3.one HRT.out
                        have HL10 := Lib.hid (HL9.out.trans hle10)
                        clear hs3 hle10
                        go_wp2_with fail
                        refine (HKN.out _ HL10).mono ?_
                        rintro e w11 ⟨rfl, hle⟩
                        have HLE13 := Lib.hid hle
                        clear hle
                        go_wp2
                        go_ret
                        exact ⟨rfl, HLE13.out⟩
end Go.Proofs.YtgelnjcjpkklbaaGreatDoor
