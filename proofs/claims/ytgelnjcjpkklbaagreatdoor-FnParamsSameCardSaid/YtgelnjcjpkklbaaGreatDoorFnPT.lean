/- Contract: the law FnParamsText. -/
import Derived.Test.YtgelnjcjpkklbaaGreatDoorFnPB
import Derived.Test.YtgelnjcjpkklbaaGreatDoorHvy
import Derived.Test.YtgelnjcjpkklbaaGreatDoorIsP
import Derived.Test.YtgelnjcjpkklbaaGreatDoorUriOf
set_option linter.unusedVariables false
set_option linter.unusedSimpArgs false
namespace Go.Proofs.YtgelnjcjpkklbaaGreatDoor
open Go.RowKit

theorem kvText_nb {sep : UInt8} {x : Tx × Tx} (h : x.2.any bl2 = false) : kvText sep x = sep :: pceT x := by
  unfold kvText pceT
  rw [h, if_neg (by simp)]
theorem psText_nb {sep : UInt8} {l : KVs} (h : ∀ x ∈ l, x.2.any bl2 = false) : psText l sep = ptT l sep := by
  have hf : ∀ {r : KVs}, (∀ x ∈ r, x.2.any bl2 = false) → r.flatMap (kvText sep) = r.flatMap (fun y => sep :: pceT y) := by
    intro r
    induction r with
    | nil => intro _; rfl
    | cons x r ih =>
      intro h
      rw [List.flatMap_cons, List.flatMap_cons, kvText_nb (h x (by simp)), ih (fun y hy => h y (by simp [hy]))]
  unfold psText
  cases l with
  | nil => rfl
  | cons x r =>
    rw [List.flatMap_cons, kvText_nb (h x (by simp)), hf (fun y hy => h y (by simp [hy]))]
    rfl
theorem flat_hv (sep : UInt8) (l : KVs) : (l.flatMap (kvText sep)).length ≤ (l.map (fun x => x.1.length + x.2.length)).sum + 4 * l.length := by
  induction l with
  | nil => simp
  | cons x r ih =>
    have h : (kvText sep x).length ≤ x.1.length + x.2.length + 4 := by
      unfold kvText
      rw [List.length_cons, List.length_append]
      split
      · simp only [List.length_cons, List.length_append, List.length_nil]; omega
      · split
        · simp only [List.length_nil]; omega
        · rw [List.length_cons]; omega
    simp only [List.flatMap_cons, List.length_append, List.map_cons, List.sum_cons, List.length_cons]
    omega
/-- little enough -/
structure Lit8 (l : KVs) : Prop where
  len : l.length ≤ 8192
  sm : ∀ x ∈ l, x.1.length + x.2.length ≤ 8192
  flat : ∀ sep, (l.flatMap (kvText sep)).length ≤ 40960
  ksm : KSm 1099511627775 l
  pt : ∀ sep, ∀ k ≤ l.length, (ptP l sep k).length ≤ 140737488300000
theorem lit8 {l : KVs} (h : hvN l l.length ≤ 8192) : Lit8 l := by
  have h1 := hvN_len l l.length
  have h2 : ∀ x ∈ l, x.1.length + x.2.length ≤ 8192 := fun x hx => by have := hvN_mem hx; omega
  refine ⟨by omega, h2, fun sep => ?_, ⟨by omega, fun x hx => by have := h2 x hx; omega⟩, fun sep k hk => ?_⟩
  · have := flat_hv sep l
    unfold hvN at h
    rw [List.take_length] at h
    omega
  · have := ptP_len (sep := sep) h2 k hk
    have h3 : k * (8192 + 2) ≤ 8192 * 8194 := Nat.mul_le_mul (by omega) (by omega)
    omega
theorem tkq_nb {l : Tx} (h : l.all tkq = true) : l.any bl2 = false := by
  rw [List.any_eq_false]
  intro c hc
  have h1 := List.all_eq_true.1 h c hc
  intro h2
  have h3 : c = 32 ∨ c = 9 := by
    unfold bl2 at h2
    simpa using h2
  rcases h3 with rfl | rfl <;> exact absurd h1 (by decide)
theorem ipB_nb {l : KVs} (h : ipB l = true) : ∀ x ∈ l, x.2.any bl2 = false := fun x hx => by
  unfold ipB at h
  simp only [Bool.and_eq_true] at h
  have := List.all_eq_true.1 h.1 x hx
  unfold ipq at this
  simp only [Bool.and_eq_true] at this
  exact tkq_nb this.2
structure GoodPT (l : KVs) (sep : UInt8) : Prop where
  lit : Lit8 l
  sp : sep.toNat < 128
  ip : ipB l = true
set_option maxRecDepth 8000 in
set_option maxHeartbeats 8000000 in
theorem fnParamsText_c (w : World) (v : Value) (l : KVs) (a : Int) (hv : Kw w v l) (ha : 0 ≤ a ∧ a ≤ 255) (hL : Laid w) :
    Calls Tryz.prog 5 #[v, .int .u8 a] w fun e w' => e = .returned (.bool true) ∧ Le w w' := by
  have u8 : ∀ z : Int, 0 ≤ z ∧ z ≤ 255 → ∃ c : UInt8, z = (c.toNat : Int) := fun z hz => ⟨UInt8.ofNat z.toNat, by rw [UInt8.toNat_ofNat']; omega⟩
  obtain ⟨sep, rfl⟩ := u8 a ha
  have HV := Lib.hid hv
  have HL := Lib.hid hL
  obtain ⟨A0, c0, rfl⟩ := hv.form
  clear hv hL u8 ha
  have KN : ∀ (W : World), Hid (Le w W) → Calls Tryz.prog 14 #[] W fun e w' => e = .returned (.bool true) ∧ Le w w' := fun W hW => (known_c W (HL.out.le hW.out)).mono fun e w' ⟨h1, h2⟩ => ⟨h1, hW.out.trans h2⟩
  have HKN := Lib.hid KN
  clear KN
  go_enter Tryz.func5, Tryz.ntmps5
  go_wp2_with fail
  obtain ⟨r0, hr0⟩ : ∃ r, ftKs l = r := ⟨_, rfl⟩
  refine (zzFits3_c w _ l r0 hr0 HV.out).mono ?_
  rintro e w1 ⟨rfl, hle1⟩
  have HR0 := Lib.hid hr0
  have HLE1 := Lib.hid hle1
  clear hr0 hle1
  cases r0
  case false =>
    go_wp2
    go_ret
    exact ⟨rfl, HLE1.out⟩
  have HK1 : Hid (Kq (fun _ => True) w1 (.slice A0 l.length c0) l) := Lib.hid ((HV.out.kq (by have := (ftKs_parts HR0.out).1; omega)).le HLE1.out)
  go_upto_region 3 with fail
  go_cut [23] from 11 to 23 (fun s23 wc => ∃ g : Bool, s23 = .bool g ∧ Le w1 wc ∧ (g = false → GoodPT l sep))
  case first =>
    go_wp2_with fail
    refine (heavy_c (fun _ => True) _ l w1 HK1.out).mono ?_
    rintro e w2 ⟨n, rfl, hn, _, hle2⟩
    have HLE2 := Lib.hid hle2
    clear hle2
    by_cases t1 : 8192 < n
    · have t1' : decide ((8192 : Int) < (n : Int)) = true := decide_eq_true (by omega)
      clear hn t1
      go_wp2
      go_meet
      case rel => exact ⟨true, rfl, HLE2.out, fun h => by cases h⟩
    have t1' : decide ((8192 : Int) < (n : Int)) = false := decide_eq_false (by omega)
    have HLI := Lib.hid (lit8 (Nat.le_trans (hn (by omega)) (by omega)))
    clear hn t1
    by_cases t2 : 127 < sep.toNat
    · have t2' : decide ((127 : Int) < (sep.toNat : Int)) = true := decide_eq_true (by omega)
      clear t2
      go_wp2
      go_meet
      case rel => exact ⟨true, rfl, HLE2.out, fun h => by cases h⟩
    have t2' : decide ((127 : Int) < (sep.toNat : Int)) = false := decide_eq_false (by omega)
    have HT2 : Hid (sep.toNat < 128) := Lib.hid (by omega)
    clear t2
    go_wp2_with fail
    refine (kvsOf_c _ _ l w2 w2 (Le.refl w2) (HK1.out.le HLE2.out)).mono ?_
    rintro e w3 ⟨v3, rfl, hkr, hle3⟩
    have HK3 := Lib.hid (hkr.kq hle3 (by have := HLI.out.len; omega))
    have HLE3 := Lib.hid (HLE2.out.trans hle3)
    clear hkr hle3
    obtain ⟨r1, hr1⟩ : ∃ r, ipB l = r := ⟨_, rfl⟩
    go_wp2_with fail
    refine (isPairs_c (fun _ => True) _ l w3 HK3.out).mono ?_
    rw [hr1]
    rintro e w4 ⟨rfl, hle4⟩
    have HR1 := Lib.hid hr1
    have HLE4 := Lib.hid (HLE3.out.trans hle4)
    clear hr1 hle4
    cases r1
    case false =>
      go_wp2
      go_meet
      case rel => exact ⟨true, rfl, HLE4.out, fun h => by cases h⟩
    case true =>
      go_wp2
      go_meet
      case rel => exact ⟨false, rfl, HLE4.out, fun _ => ⟨HLI.out, HT2.out, HR1.out⟩⟩
  obtain ⟨g, rfl, hle, hgood⟩ := hcut
  have HLE := Lib.hid (HLE1.out.trans hle)
  have HKC := Lib.hid (HK1.out.le hle)
  have HGD := Lib.hid hgood
  clear hle hgood
  cases g
  case true =>
    go_wp2_with fail
    refine (HKN.out _ HLE).mono ?_
    rintro e w' ⟨rfl, hle⟩
    have HLE' := Lib.hid hle
    clear hle
    go_wp2
    go_ret
    exact ⟨rfl, HLE'.out⟩
  have HG := Lib.hid (HGD.out rfl)
  clear HGD
  go_wp2_with fail
  refine (iPmt_c (fun _ => True) wc _ l sep _ rfl HG.out.sp HKC.out HG.out.lit.ksm (by have := HG.out.lit.flat sep; omega)).mono ?_
  rintro e w3 ⟨v1, v2, rfl, hb1, hb2, hle3⟩
  rw [psText_nb (ipB_nb HG.out.ip)] at hb1 hb2
  have HLE3 := Lib.hid (HLE.out.trans hle3)
  have HB1 := Lib.hid hb1
  have HB2 := Lib.hid hb2
  obtain ⟨A1, c1, rfl, _⟩ := bv_slice hb1
  obtain ⟨A2, c2, rfl, _⟩ := bv_slice hb2
  have HK3 := Lib.hid (HKC.out.le hle3)
  clear hb1 hb2 hle3
  dsimp only
  generalize (ptT l sep).length = q at HB1 HB2 ⊢
  go_wp2_with fail
  refine (kvsOf_c _ _ l w3 w3 (Le.refl w3) HK3.out).mono ?_
  rintro e w4 ⟨v4, rfl, hkr, hle4⟩
  have HK4 := Lib.hid (hkr.kq hle4 (by have := HG.out.lit.len; omega))
  have HLE4 := Lib.hid (HLE3.out.trans hle4)
  have HL4 := Lib.hid hle4
  clear hkr hle4
  go_wp2_with fail
  refine (sText_c _ l sep w4 HK4.out (HG.out.lit.pt sep) (fun x hx => by have := HG.out.lit.sm x hx; omega)).mono ?_
  rw [ptP_all]
  rintro e w5 ⟨v5, rfl, hown5, hle5⟩
  have HB5 := Lib.hid (hown5.bv (by have := HG.out.lit.pt sep _ (Nat.le_refl _); rw [ptP_all] at this; omega))
  have HLE5 := Lib.hid (HLE4.out.trans hle5)
  have HL5 := Lib.hid (HL4.out.trans hle5)
  obtain ⟨n5, A5, c5, rfl⟩ : ∃ n A c, v5 = .slice A n c := by obtain ⟨A, c, e, _⟩ := bv_slice HB5.out; exact ⟨_, A, c, e⟩
  clear hown5 hle5
  go_wp2_with fail
  refine (equal_e w5 _ _ (ptT l sep) (ptT l sep) true (by simp) (HB1.out.le HL5.out) HB5.out).mono ?_
  rintro e w6 ⟨rfl, hle6⟩
  have HL6 := Lib.hid (HL5.out.trans hle6)
  have HB6 := Lib.hid (HB5.out.le hle6)
  have HLE6 := Lib.hid (HLE5.out.trans hle6)
  clear hle6
  go_wp2_with fail
  refine (equal_e w6 _ _ (ptT l sep) (ptT l sep) true (by simp) (HB2.out.le HL6.out) HB6.out).mono ?_
  rintro e w7 ⟨rfl, hle7⟩
  have HLE7 := Lib.hid (HLE6.out.trans hle7)
  clear hle7
  go_wp2_with fail
  refine (HKN.out _ HLE7).mono ?_
  rintro e w9 ⟨rfl, hle⟩
  have HLE9 := Lib.hid hle
  clear hle
  go_wp2
  go_ret
  exact ⟨rfl, HLE9.out⟩
end Go.Proofs.YtgelnjcjpkklbaaGreatDoor
