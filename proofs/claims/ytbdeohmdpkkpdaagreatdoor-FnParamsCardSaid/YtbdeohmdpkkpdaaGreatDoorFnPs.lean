/- Contracts: the specification's Params; the law FnParams (printed by gen_params.py). -/
import Derived.Test.YtbdeohmdpkkpdaaGreatDoorPms
import Derived.Test.YtbdeohmdpkkpdaaGreatDoorIsP
import Derived.Test.YtbdeohmdpkkpdaaGreatDoorUriOf
set_option linter.unusedVariables false
set_option linter.unusedSimpArgs false
namespace Go.Proofs.YtbdeohmdpkkpdaaGreatDoor
open Go.RowKit

structure PTold (l : Tx) (sp en : UInt8) : Prop where
  ne : l ≠ []
  a1 : isAn sp = false
  a2 : isAn en = false
  i1 : hasB (bs ⟨#[45, 46, 33, 37, 42, 95, 43, 96, 39, 126, 61, 34, 60, 62, 32]⟩) sp = false
  i2 : hasB (bs ⟨#[45, 46, 33, 37, 42, 95, 43, 96, 39, 126, 61, 34, 60, 62, 32]⟩) en = false
  apart : sp ≠ en
def SPmsPost (l : Tx) (sp en : UInt8) (w : World) (e : Ending) (w' : World) : Prop :=
  Le w w' ∧ ((∃ v' kvs, e = .returned (.tuple #[v', .int .i64 0]) ∧ PTold l sp en ∧ pairsS l sp tokenL = some kvs ∧ Kq (fun _ => True) w' v' kvs) ∨ ∃ v', e = .returned (.tuple #[v', .int .i64 (-2)]))
set_option maxRecDepth 8000 in
set_option maxHeartbeats 8000000 in
theorem sPms_c (w : World) (v : Value) (l : Tx) (sp en : UInt8) (hv : Bv w v l) (hl : l.length ≤ 1099511627000) (hsp : sp.toNat < 128) (hen : en.toNat < 128) :
    Calls Tryz.prog 27 #[v, .int .u8 sp.toNat, .int .u8 en.toNat] w (SPmsPost l sp en w) := by
  have HV := Lib.hid hv
  have HL := Lib.hid hl
  have hne : Hid ((((sp.toNat : Int)) == (en.toNat : Int)) = decide (sp = en)) := Lib.hid (by
    by_cases h : sp = en
    · subst h; simp
    · have : ¬ ((sp.toNat : Int) = en.toNat) := fun e => h (UInt8.toNat_inj.1 (by omega))
      rw [decide_eq_false h]; exact beq_eq_false_iff_ne.2 this)
  have C1 := isAlnum_c sp w
  have C2 := isAlnum_c en w
  have C3 := isIn_c sp ⟨#[45, 46, 33, 37, 42, 95, 43, 96, 39, 126, 61, 34, 60, 62, 32]⟩ w (by decide)
  have C4 := isIn_c en ⟨#[45, 46, 33, 37, 42, 95, 43, 96, 39, 126, 61, 34, 60, 62, 32]⟩ w (by decide)
  have C5 := Lib.hid (indexOf_c v l en w hv)
  have HPO := Lib.hid (pairsOf_c v l sp ⟨#[45, 46, 33, 37, 42, 95, 43, 96, 39, 126]⟩ w w (Le.refl w) hv hl (by decide))
  obtain ⟨A0, c0, rfl, hl0⟩ := bv_slice hv
  have f1 : decide ((127 : Int) < (sp.toNat : Int)) = false := decide_eq_false (by omega)
  have f2 : decide ((127 : Int) < (en.toNat : Int)) = false := decide_eq_false (by omega)
  obtain ⟨r1, hr1⟩ : ∃ r, isAn sp = r := ⟨_, rfl⟩
  obtain ⟨r2, hr2⟩ : ∃ r, isAn en = r := ⟨_, rfl⟩
  obtain ⟨r3, hr3⟩ : ∃ r, hasB (bs ⟨#[45, 46, 33, 37, 42, 95, 43, 96, 39, 126, 61, 34, 60, 62, 32]⟩) sp = r := ⟨_, rfl⟩
  obtain ⟨r4, hr4⟩ : ∃ r, hasB (bs ⟨#[45, 46, 33, 37, 42, 95, 43, 96, 39, 126, 61, 34, 60, 62, 32]⟩) en = r := ⟨_, rfl⟩
  obtain ⟨r5, hr5⟩ : ∃ r, decide (sp = en) = r := ⟨_, rfl⟩
  obtain ⟨r6, hr6⟩ : ∃ r, decide (l = []) = r := ⟨_, rfl⟩
  have hz : (((l.length : Nat) : Int) == 0) = r6 := by
    rw [← hr6]
    cases l with
    | nil => rfl
    | cons _ _ => rw [decide_eq_false (by simp)]; exact beq_eq_false_iff_ne.2 (by simp; omega)
  have f5 := hne.out
  rw [hr5] at f5
  rw [hr1] at C1
  rw [hr2] at C2
  rw [hr3] at C3
  rw [hr4] at C4
  have H1 := Lib.hid C1
  have H2 := Lib.hid C2
  have H3 := Lib.hid C3
  have H4 := Lib.hid C4
  have HG : Hid (r6 = false → r1 = false → r2 = false → r3 = false → r4 = false → r5 = false → PTold l sp en) := Lib.hid (fun e6 e1 e2 e3 e4 e5 => ⟨of_decide_eq_false (hr6.trans e6), hr1.trans e1, hr2.trans e2, hr3.trans e3, hr4.trans e4, of_decide_eq_false (hr5.trans e5)⟩)
  clear C1 C2 C3 C4 hr1 hr2 hr3 hr4 hr5 hr6 hv hl hsp hen hne hl0
  generalize (sp.toNat : Int) = a at f1 f5 H1 H3 HPO ⊢
  generalize (en.toNat : Int) = b at f2 f5 H2 H4 C5 ⊢
  go_enter Tryz.func27, Tryz.ntmps27
  go_upto_region 1 with fail
  go_cut [47] from 10 to 47 (fun s47 wc => ∃ g : Bool, s47 = .bool g ∧ w = wc ∧ (g = false → PTold l sp en))
  case first =>
    cases r6
    case true =>
      go_wp2
      go_meet
      case rel => exact ⟨true, rfl, rfl, fun h => by cases h⟩
    go_wp2_with fail
    refine H1.out.mono ?_
    rintro e w' ⟨rfl, rfl⟩
    cases r1
    case true =>
      go_wp2
      go_meet
      case rel => exact ⟨true, rfl, rfl, fun h => by cases h⟩
    go_wp2_with fail
    refine H2.out.mono ?_
    rintro e w' ⟨rfl, rfl⟩
    cases r2
    case true =>
      go_wp2
      go_meet
      case rel => exact ⟨true, rfl, rfl, fun h => by cases h⟩
    go_wp2_with fail
    refine H3.out.mono ?_
    rintro e w' ⟨rfl, rfl⟩
    cases r3
    case true =>
      go_wp2
      go_meet
      case rel => exact ⟨true, rfl, rfl, fun h => by cases h⟩
    go_wp2_with fail
    refine H4.out.mono ?_
    rintro e w' ⟨rfl, rfl⟩
    cases r4
    case true =>
      go_wp2
      go_meet
      case rel => exact ⟨true, rfl, rfl, fun h => by cases h⟩
    cases r5
    case true =>
      go_wp2
      go_meet
      case rel => exact ⟨true, rfl, rfl, fun h => by cases h⟩
    go_wp2_with fail
    refine C5.out.mono ?_
    rintro e w' ⟨rfl, rfl⟩
    by_cases c6 : 0 ≤ ixI l en
    · go_wp2
      go_meet
      case rel => exact ⟨true, rfl, rfl, fun h => by cases h⟩
    · have c6' : decide ((0 : Int) ≤ ixI l en) = false := decide_eq_false c6
      clear c6
      go_wp2
      go_meet
      case rel => exact ⟨false, rfl, rfl, fun _ => HG.out (by trivial) (by trivial) (by trivial) (by trivial) (by trivial) (by trivial)⟩
  obtain ⟨g, rfl, rfl, hg⟩ := hcut
  have HT := Lib.hid hg
  clear hg
  cases g
  case true =>
    go_wp2
    go_returns
    exact ⟨Le.refl _, .inr ⟨_, rfl⟩⟩
  go_wp2_with fail
  refine HPO.out.mono ?_
  rintro e w1 ⟨v1, ok, rfl, hle1, ⟨A1, m1, c1, rfl⟩, hif⟩
  have HLE1 := Lib.hid hle1
  cases ok
  · clear hif hle1
    go_wp2
    go_returns
    exact ⟨HLE1.out, .inr ⟨_, rfl⟩⟩
  rw [if_pos rfl] at hif
  obtain ⟨kvs, hkv, hlen, hkr⟩ := hif
  have HK := Lib.hid (hkr.kq hle1 hlen)
  have HKV := Lib.hid hkv
  clear hkv hlen hkr hle1
  go_wp2_with fail
  refine (isPairs_c _ _ kvs w1 HK.out).mono ?_
  rintro e w2 ⟨rfl, hle2⟩
  have HLE2 := Lib.hid (HLE1.out.trans hle2)
  have HK2 := Lib.hid (HK.out.le hle2)
  clear hle2
  generalize ipB kvs = q
  cases q
  · go_wp2
    go_returns
    exact ⟨HLE2.out, .inr ⟨_, rfl⟩⟩
  · go_wp2
    go_returns
    exact ⟨HLE2.out, .inl ⟨_, kvs, rfl, HT.out (by trivial), HKV.out, HK2.out⟩⟩

/-! ### the plain law -/
theorem tokenL_low : ∀ c ∈ tokenL, c.toNat < 128 ∧ spB c = false := by decide
theorem ptold_not {c : UInt8} (h1 : isAn c = false) (h2 : hasB (bs ⟨#[45, 46, 33, 37, 42, 95, 43, 96, 39, 126, 61, 34, 60, 62, 32]⟩) c = false) : alw tokenL c = false ∧ c ≠ 61 ∧ c ≠ 34 := by
  have hn : ∀ d ∈ ([45, 46, 33, 37, 42, 95, 43, 96, 39, 126, 61, 34, 60, 62, 32] : Tx), c ≠ d := by
    rintro d hd rfl
    have : hasB (bs ⟨#[45, 46, 33, 37, 42, 95, 43, 96, 39, 126, 61, 34, 60, 62, 32]⟩) c = true := List.contains_iff_mem.2 hd
    rw [h2] at this; cases this
  refine ⟨?_, hn 61 (by decide), hn 34 (by decide)⟩
  unfold alw
  rw [h1, Bool.false_or]
  have a1 : (c == 37) = false := beq_eq_false_iff_ne.2 (hn 37 (by decide))
  have a2 : tokenL.contains c = false := by
    cases h : tokenL.contains c with
    | false => rfl
    | true =>
      have hm := List.contains_iff_mem.1 h
      exact absurd rfl (hn c (by revert hm; unfold tokenL; simp only [List.mem_cons, List.mem_nil_iff, or_false]; intro hm; rcases hm with h | h | h | h | h | h | h | h | h | h <;> simp [h]))
  rw [a1, a2]; rfl
theorem law_params {l t : Tx} {sp en : UInt8} {kvs : KVs} (h : PTold l sp en) (hp : pairsS l sp tokenL = some kvs) (ht : TrimT l t) : (unm t sp en []).2 = kvs := by
  obtain ⟨_, x, r, e, hx⟩ := pairs_head hp
  have et := trim_eq tokenL_low ht e hx
  obtain ⟨p1, p2, p3⟩ := ptold_not h.a1 h.i1
  obtain ⟨q1, q2, q3⟩ := ptold_not h.a2 h.i2
  have := unm_pairs (Q := l) (tl := []) (sp := sp) (en := en) (signs := tokenL) p1 q1 rfl rfl p2 q2 p3 h.apart (.inl rfl) hp (fun h => absurd rfl h)
  rw [List.append_nil] at this
  rw [et, this]

set_option maxRecDepth 8000 in
set_option maxHeartbeats 8000000 in
theorem fnParams_c (w : World) (v : Value) (l : Tx) (a b : Int) (hv : Bv w v l) (ha : 0 ≤ a ∧ a ≤ 255) (hb : 0 ≤ b ∧ b ≤ 255) (hL : Laid w) :
    Calls Tryz.prog 6 #[v, .int .u8 a, .int .u8 b] w fun e w' => e = .returned (.bool true) ∧ Le w w' := by
  have u8 : ∀ z : Int, 0 ≤ z ∧ z ≤ 255 → ∃ c : UInt8, z = (c.toNat : Int) := fun z hz => ⟨UInt8.ofNat z.toNat, by rw [UInt8.toNat_ofNat']; omega⟩
  obtain ⟨sp, rfl⟩ := u8 a ha
  obtain ⟨en, rfl⟩ := u8 b hb
  have HV := Lib.hid hv
  have HL := Lib.hid hL
  obtain ⟨A0, c0, rfl, hl0⟩ := bv_slice hv
  clear hv hL u8
  have KN : ∀ (W : World), Hid (Le w W) → Calls Tryz.prog 14 #[] W fun e w' => e = .returned (.bool true) ∧ Le w w' := fun W hW => (known_c W (HL.out.le hW.out)).mono fun e w' ⟨h1, h2⟩ => ⟨h1, hW.out.trans h2⟩
  have HKN := Lib.hid KN
  clear KN
  by_cases h1 : 2147483647 < l.length
  · have h1' : (2147483647 : Int) < l.length := by omega
    go_enter Tryz.func6, Tryz.ntmps6
    go_wp2
    go_ret
    exact ⟨rfl, Le.refl w⟩
  have h1' : (l.length : Int) ≤ 2147483647 := by omega
  by_cases h2 : 8192 < l.length
  · have h2' : decide ((8192 : Int) < (l.length : Int)) = true := decide_eq_true (by omega)
    go_enter Tryz.func6, Tryz.ntmps6
    go_wp2_with fail
    refine (HKN.out w (Lib.hid (Le.refl w))).mono ?_
    rintro e w' ⟨rfl, hle⟩
    have HLE := Lib.hid hle
    clear hle
    go_wp2
    go_ret
    exact ⟨rfl, HLE.out⟩
  have h2' : decide ((8192 : Int) < (l.length : Int)) = false := decide_eq_false (by omega)
  have HN : Hid (l.length ≤ 1099511627000) := Lib.hid (by omega)
  by_cases h3 : 127 < sp.toNat
  · have h3' : decide ((127 : Int) < (sp.toNat : Int)) = true := decide_eq_true (by omega)
    go_enter Tryz.func6, Tryz.ntmps6
    go_wp2_with fail
    refine (HKN.out w (Lib.hid (Le.refl w))).mono ?_
    rintro e w' ⟨rfl, hle⟩
    have HLE := Lib.hid hle
    clear hle
    go_wp2
    go_ret
    exact ⟨rfl, HLE.out⟩
  have h3' : decide ((127 : Int) < (sp.toNat : Int)) = false := decide_eq_false (by omega)
  have H3 : Hid (sp.toNat < 128) := Lib.hid (by omega)
  by_cases h4 : 127 < en.toNat
  · have h4' : decide ((127 : Int) < (en.toNat : Int)) = true := decide_eq_true (by omega)
    go_enter Tryz.func6, Tryz.ntmps6
    go_wp2_with fail
    refine (HKN.out w (Lib.hid (Le.refl w))).mono ?_
    rintro e w' ⟨rfl, hle⟩
    have HLE := Lib.hid hle
    clear hle
    go_wp2
    go_ret
    exact ⟨rfl, HLE.out⟩
  have h4' : decide ((127 : Int) < (en.toNat : Int)) = false := decide_eq_false (by omega)
  have H4 : Hid (en.toNat < 128) := Lib.hid (by omega)
  clear h1 h2 h3 h4 ha hb
  go_enter Tryz.func6, Tryz.ntmps6
  go_wp2_with fail
  refine (iParams_c w _ l sp en HV.out HN.out H3.out H4.out HL.out).mono ?_
  rintro e w1 ⟨v1, t, rfl, ht, hk1, hle1⟩
  have HT := Lib.hid ht
  have HK1 := Lib.hid hk1
  have HLE1 := Lib.hid hle1
  clear ht hk1 hle1
  generalize ((unm t sp en []).1 : Int) = nn
  go_wp2_with fail
  refine (sPms_c w1 _ l sp en (HV.out.le HLE1.out) HN.out H3.out H4.out).mono ?_
  rintro e w2 ⟨hle2, ⟨v2, kvs, rfl, htold, hps, hk2⟩ | ⟨v2, rfl⟩⟩
  · have HLE2 := Lib.hid (HLE1.out.trans hle2)
    have hlaw := law_params htold hps HT.out
    have hk1 := HK1.out.le hle2
    rw [hlaw] at hk1
    have HKa := Lib.hid hk1
    have HKb := Lib.hid hk2
    clear hle2 htold hps hk2 hlaw hk1 HK1
    go_wp2_with fail
    refine (kvsOf_c _ _ kvs w2 w2 (Le.refl w2) HKa.out).mono ?_
    rintro e w3 ⟨v3, rfl, hkr, hle3⟩
    have HLE3 := Lib.hid (HLE2.out.trans hle3)
    have HKc := Lib.hid (hkr.kq hle3 (by obtain ⟨_, _, _, _, _, h, _⟩ := HKa.out; exact h))
    have HKd := Lib.hid (HKb.out.le hle3)
    clear hle3 hkr
    go_wp2_with fail
    refine (samePairs_c _ _ w3 _ _ kvs kvs HKc.out HKd.out).mono ?_
    rintro e w4 ⟨rfl, hdr⟩
    rw [decide_eq_true rfl]
    have HLE4 := Lib.hid (HLE3.out.trans hdr.le)
    clear hdr
    go_wp2_with fail
    refine (HKN.out w4 HLE4).mono ?_
    rintro e w5 ⟨rfl, hle⟩
    have HLE5 := Lib.hid hle
    clear hle
    go_wp2
    go_ret
    exact ⟨rfl, HLE5.out⟩
  · have HLE2 := Lib.hid (HLE1.out.trans hle2)
    clear hle2
    go_wp2_with fail
    refine (HKN.out w2 HLE2).mono ?_
    rintro e w5 ⟨rfl, hle⟩
    have HLE5 := Lib.hid hle
    clear hle
    go_wp2
    go_ret
    exact ⟨rfl, HLE5.out⟩
end Go.Proofs.YtbdeohmdpkkpdaaGreatDoor
