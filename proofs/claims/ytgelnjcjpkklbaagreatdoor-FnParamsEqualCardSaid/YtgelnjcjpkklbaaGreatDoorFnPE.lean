/- Contract: the law FnParamsEnd. -/
import Derived.Test.YtgelnjcjpkklbaaGreatDoorPTx
import Derived.Test.YtgelnjcjpkklbaaGreatDoorPms
set_option linter.unusedVariables false
set_option linter.unusedSimpArgs false
namespace Go.Proofs.YtgelnjcjpkklbaaGreatDoor
open Go.RowKit

/-- two slices of bytes, one behind the other -/
theorem sl_two (W : World) (x y : Value) (a b : Tx) (hx : Bv W x a) (hy : Bv W y b) : Sl (W.alloc (Obj.cells #[x, y] 22)) (W.alloc (Obj.cells #[x, y] 22)) (.slice (some ⟨W.heap.size, 0, none⟩) 2 2) [a, b] := by
  refine ⟨_, 2, rfl, by simp, by simp, by simp, fun _ => ⟨W.heap.size, 0, rfl, fun j hj => ?_⟩⟩
  have hle : Le W (W.alloc (Obj.cells #[x, y] 22)) := (Le.refl W).alloc _
  rw [Nat.zero_add, cell_cells (heap_alloc_new W _) j]
  match j, hj with
  | 0, _ => exact ⟨_, rfl, hx.le hle⟩
  | 1, _ => exact ⟨_, rfl, hy.le hle⟩
theorem iParams_q (w : World) (v : Value) (l : Tx) (sp en : UInt8) (a b : Int) (ha : a = (sp.toNat : Int)) (hb : b = (en.toNat : Int)) (hv : Bv w v l) (hl : l.length ≤ 1099511627000) (hsp : sp.toNat < 128) (hen : en.toNat < 128) (hL : Laid w) :
    Calls Tryz.prog 26 #[v, .int .u8 a, .int .u8 b] w (PmsPost l sp en w) := by subst ha; subst hb; exact iParams_c w v l sp en hv hl hsp hen hL
theorem pText_q (v : Value) (l : KVs) (sep : UInt8) (a : Int) (ha : a = (sep.toNat : Int)) (w : World) (hv : Kq (fun _ => True) w v l) (hg : PrmG l) :
    Calls Tryz.prog 25 #[v, .int .u8 a] w fun e w' => ∃ v', e = .returned v' ∧ OwnB w.heap.size w' v' (ptT l sep) ∧ Le w w' := by
  subst ha
  refine (pText_c v l sep w hv (fun k hk => by have := hg.ptlen sep k hk; omega) (fun x hx => by have := hg.sm x hx; omega)).mono ?_
  rintro e w' ⟨v', h1, h2, h3⟩
  rw [ptP_all] at h2
  exact ⟨v', h1, h2, h3⟩
theorem PrmG.tlen {l : KVs} (h : PrmG l) (sep : UInt8) : (ptT l sep).length ≤ 2097152 := by rw [← ptP_all]; exact h.ptlen sep _ (Nat.le_refl _)
structure GoodPE (l : KVs) (tl ot : Tx) : Prop where
  prm : PrmG l
  ne : l ≠ []
  last : lastV l ≠ []
  tl : tl.length ≤ 8192
  ot : ot.length ≤ 8192
theorem lastV_len {l : KVs} {m : Nat} (h : m < l.length) (e : m = l.length - 1) : lastV l = l[m].2 := by
  subst e
  unfold lastV
  rw [List.getLast?_eq_getElem?, List.getElem?_eq_getElem h]
  rfl

set_option maxRecDepth 8000 in
set_option maxHeartbeats 8000000 in
theorem fnParamsEnd_c (w : World) (v tv ov : Value) (l : KVs) (tl ot : Tx) (hv : Kw w v l) (ht : Bv w tv tl) (ho : Bv w ov ot) (hL : Laid w) :
    Calls Tryz.prog 4 #[v, tv, ov] w fun e w' => e = .returned (.bool true) ∧ Le w w' := by
  have HV := Lib.hid hv
  have HT := Lib.hid ht
  have HO := Lib.hid ho
  have HL := Lib.hid hL
  obtain ⟨A0, c0, rfl⟩ := hv.form
  obtain ⟨A1, c1, rfl⟩ := ht.form
  obtain ⟨A2, c2, rfl⟩ := ho.form
  clear hv ht ho hL
  have KN : ∀ (W : World), Hid (Le w W) → Calls Tryz.prog 14 #[] W fun e w' => e = .returned (.bool true) ∧ Le w w' := fun W hW => (known_c W (HL.out.le hW.out)).mono fun e w' ⟨h1, h2⟩ => ⟨h1, hW.out.trans h2⟩
  have HKN := Lib.hid KN
  clear KN
  go_enter Tryz.func4, Tryz.ntmps4
  go_wp2_with fail
  obtain ⟨r0, hr0⟩ : ∃ r, ftKs l = r := ⟨_, rfl⟩
  refine (zzFits3_c w _ l r0 hr0 HV.out).mono ?_
  rintro e w1 ⟨rfl, hle1⟩
  have HR0 := Lib.hid hr0
  have HLE1 := Lib.hid hle1
  clear hr0 hle1
  cases r0
  case false =>
    go_wp2
    go_ret
    exact ⟨rfl, HLE1.out⟩
  by_cases t1 : 2147483647 < tl.length
  · have t1' : (2147483647 : Int) < tl.length := by omega
    go_wp2
    go_ret
    exact ⟨rfl, HLE1.out⟩
  have t1' : (tl.length : Int) ≤ 2147483647 := by omega
  by_cases t2 : 2147483647 < ot.length
  · have t2' : (2147483647 : Int) < ot.length := by omega
    go_wp2
    go_ret
    exact ⟨rfl, HLE1.out⟩
  have t2' : (ot.length : Int) ≤ 2147483647 := by omega
  clear t1 t2
  have HK1 : Hid (Kq (fun _ => True) w1 (.slice A0 l.length c0) l) := Lib.hid ((HV.out.kq (by have := (ftKs_parts HR0.out).1; omega)).le HLE1.out)
  have HVW := Lib.hid (HV.out.le HLE1.out)
  go_upto_region 3 with fail
  go_cut [53] from 25 to 53 (fun s53 wc => ∃ g : Bool, s53 = .bool g ∧ Le w wc ∧ (g = false → GoodPE l tl ot))
  case first =>
    obtain ⟨r1, hr1⟩ : ∃ r, prmB l false = r := ⟨_, rfl⟩
    go_wp2_with fail
    refine (isParams_c (fun _ => True) _ l false w1 r1 hr1 HK1.out).mono ?_
    rintro e w2 ⟨rfl, m, rfl⟩
    have HR1 := Lib.hid hr1
    have HLE2 : Hid (Le w (w1.drewN m)) := Lib.hid (HLE1.out.drewN m)
    clear hr1
    cases r1
    case false =>
      go_wp2
      go_meet
      case rel => exact ⟨true, rfl, HLE2.out, fun h => by cases h⟩
    by_cases t3 : l.length = 0
    · have t3' : ((l.length : Int) == 0) = true := by rw [t3]; rfl
      clear t3
      go_wp2
      go_meet
      case rel => exact ⟨true, rfl, HLE2.out, fun h => by cases h⟩
    have t3' : ((l.length : Int) == 0) = false := by rw [beq_eq_false_iff_ne]; omega
    have hpos : l.length - 1 < l.length := by omega
    have HKD := Lib.hid (HK1.out.le ((Le.refl w1).drewN m))
    obtain ⟨A', c', e', _, _, _, h5⟩ := HKD.out
    injection e' with e1 e2 e3
    subst e1
    subst e3
    obtain ⟨g, o, rfl, _, hc⟩ := h5 (by omega)
    obtain ⟨x, y, d1, d2, hx, hy⟩ := hc (l.length - 1) hpos
    obtain ⟨Ay, cy, ey, _⟩ := bv_slice hy.1
    subst ey
    clear e2 h5 hc d1 hx hy
    have HLV := Lib.hid (lastV_len hpos rfl)
    have ei : ((l.length - 1 : Nat) : Int) = (l.length : Int) - 1 := by omega
    have hi0 : (0 : Int) ≤ (l.length : Int) - 1 := by omega
    have hi1 : ((l.length : Int) - 1).toNat = l.length - 1 := by omega
    have HNE : Hid (l ≠ []) := Lib.hid (fun h => t3 (by rw [h]; rfl))
    by_cases t4 : l[l.length - 1].2.length = 0
    · have t4' : ((l[l.length - 1].2.length : Int) == 0) = true := by rw [t4]; rfl
      clear t4
      go_wp2
      go_meet
      case rel => exact ⟨true, rfl, HLE2.out, fun h => by cases h⟩
    have t4' : ((l[l.length - 1].2.length : Int) == 0) = false := by rw [beq_eq_false_iff_ne]; omega
    have HLN : Hid (lastV l ≠ []) := Lib.hid (fun h => t4 (by rw [← HLV.out, h]; rfl))
    clear t4
    generalize l[l.length - 1].2.length = mm at d2 t4'
    by_cases t5 : 8192 < tl.length
    · have t5' : decide ((8192 : Int) < (tl.length : Int)) = true := decide_eq_true (by omega)
      go_wp2
      go_meet
      case rel => exact ⟨true, rfl, HLE2.out, fun h => by cases h⟩
    have t5' : decide ((8192 : Int) < (tl.length : Int)) = false := decide_eq_false (by omega)
    have HT5 : Hid (tl.length ≤ 8192) := Lib.hid (by omega)
    clear t5
    by_cases t6 : 8192 < ot.length
    · have t6' : decide ((8192 : Int) < (ot.length : Int)) = true := decide_eq_true (by omega)
      go_wp2
      go_meet
      case rel => exact ⟨true, rfl, HLE2.out, fun h => by cases h⟩
    have t6' : decide ((8192 : Int) < (ot.length : Int)) = false := decide_eq_false (by omega)
    have HG : Hid (GoodPE l tl ot) := Lib.hid ⟨prm_k HR1.out, HNE.out, HLN.out, HT5.out, by omega⟩
    clear t6
    go_wp2
    go_meet
    case rel => exact ⟨false, rfl, HLE2.out, fun _ => HG.out⟩
  obtain ⟨g, rfl, hle, hgood⟩ := hcut
  have HLE := Lib.hid hle
  have HGD := Lib.hid hgood
  clear hle hgood
  cases g
  case true =>
    go_wp2_with fail
    refine (HKN.out _ HLE).mono ?_
    rintro e w' ⟨rfl, hle⟩
    have HLE' := Lib.hid hle
    clear hle
    go_wp2
    go_ret
    exact ⟨rfl, HLE'.out⟩
  have HG := Lib.hid (HGD.out rfl)
  clear HGD
  have HKC : Hid (Kq (fun _ => True) wc (.slice A0 l.length c0) l) := Lib.hid ((HV.out.kq (by have := HG.out.prm.len; omega)).le HLE.out)
  go_wp2_with fail
  refine (pText_q _ l 59 59 rfl wc HKC.out HG.out.prm).mono ?_
  rintro e w2 ⟨v2, rfl, hown2, hle2⟩
  have hb2 := hown2.bv (by have := HG.out.prm.tlen 59; omega)
  obtain ⟨A3, c3, rfl, _⟩ := bv_slice hb2
  have HB2 := Lib.hid hb2
  have HLE2 := Lib.hid (HLE.out.trans hle2)
  clear hown2 hle2 hb2
  have hle3 : Le w2 (w2.alloc (Obj.cells #[.int .u8 63] 5)) := (Le.refl w2).alloc _
  have hb3 : Bv (w2.alloc (Obj.cells #[.int .u8 63] 5)) (.slice (some ⟨w2.heap.size, 0, none⟩) 1 1) [63] := bv_lit w2 [63] (by decide) (0, 0)
  have hsl := sl_two _ _ _ _ _ (HB2.out.le hle3) hb3
  obtain ⟨W2, hW2, hle4⟩ : ∃ W2, W2 = (w2.alloc (Obj.cells #[.int .u8 63] 5)).alloc (Obj.cells #[.slice A3 (ptT l 59).length c3, .slice (some ⟨w2.heap.size, 0, none⟩) 1 1] 22) ∧ Le w2 W2 := ⟨_, rfl, ((Le.refl w2).alloc _).alloc _⟩
  have HS2 : Hid (Sl W2 W2 (.slice (some ⟨w2.heap.size + 1, 0, none⟩) 2 2) [ptT l 59, [63]]) := Lib.hid (by rw [hW2]; have := hsl; rw [show (w2.alloc (Obj.cells #[.int .u8 63] 5)).heap.size = w2.heap.size + 1 from by simp] at this; exact this)
  have HLE4 := Lib.hid (HLE2.out.trans hle4)
  clear hle3 hb3 hsl hle4
  subst hW2
  go_wp2_with fail
  refine (joined_c _ _ _ HS2.out (by have := HG.out.prm.tlen 59; simp; omega)).mono ?_
  rintro e w3 ⟨v3, rfl, hown3, hle5⟩
  have hfl : [ptT l 59, [63]].flatten = ptT l 59 ++ [63] := by simp
  rw [hfl] at hown3
  have hb5 := hown3.bv (by have := HG.out.prm.tlen 59; simp; omega)
  obtain ⟨A4, c4, rfl, _⟩ := bv_slice hb5
  have HB5 := Lib.hid hb5
  have HLE5 := Lib.hid (HLE4.out.trans hle5)
  have HN5 : Hid ((ptT l 59 ++ [63]).length ≤ 2097153) := Lib.hid (by have := HG.out.prm.tlen 59; simp; omega)
  clear hown3 hle5 hb5 hfl
  -- the first one
  have hsl := sl_two w3 _ _ _ _ HB5.out (HT.out.le HLE5.out)
  have HS6 := Lib.hid hsl
  have HLE6 : Hid (Le w (w3.alloc (Obj.cells #[.slice A4 (ptT l 59 ++ [63]).length c4, .slice A1 tl.length c1] 22))) := Lib.hid (HLE5.out.alloc _)
  clear hsl
  generalize hq5 : (ptT l 59 ++ [63]).length = q5 at HS6 HLE6 HB5 HN5 ⊢
  have HQ5 := Lib.hid hq5
  clear hq5
  go_wp2_with fail
  refine (joined_c _ _ _ HS6.out (by have := HN5.out; have := HG.out.tl; have := HQ5.out; simp at this ⊢; omega)).mono ?_
  rintro e w4 ⟨v4, rfl, hown4, hle7⟩
  have hfl : [ptT l 59 ++ [63], tl].flatten = ptT l 59 ++ 63 :: tl := by simp
  rw [hfl] at hown4
  have HB7 := Lib.hid (hown4.bv (by have := HG.out.prm.tlen 59; have := HG.out.tl; simp; omega))
  have HLE7 := Lib.hid (HLE6.out.trans hle7)
  have HL34 : Hid (Le w3 w4) := Lib.hid (((Le.refl w3).alloc _).trans hle7)
  clear hown4 hle7 hfl
  go_wp2_with fail
  refine (iParams_q w4 _ _ 59 63 59 63 rfl rfl HB7.out (by have := HG.out.prm.tlen 59; have := HG.out.tl; simp; omega) (by decide) (by decide) (HL.out.le HLE7.out)).mono ?_
  rintro e w5 ⟨v5, t5, rfl, ht5, hk5, hle8⟩
  have hu5 := back_tail HG.out.prm HG.out.ne (.inl rfl) (.inr ⟨tl, rfl⟩) (fun _ => HG.out.last) ht5
  rw [hu5] at hk5 ⊢
  have HK5 := Lib.hid hk5
  have HLE8 := Lib.hid (HLE7.out.trans hle8)
  have HB8 := Lib.hid (HB5.out.le (HL34.out.trans hle8))
  obtain ⟨A5, c5, rfl⟩ : ∃ A c, v5 = .slice A l.length c := by obtain ⟨A, c, e, _⟩ := hk5; exact ⟨A, c, e⟩
  clear hu5 ht5 hk5 hle8
  dsimp only
  -- the other one
  have hsl := sl_two w5 _ _ _ _ HB8.out (HO.out.le HLE8.out)
  have HS9 := Lib.hid hsl
  have HLE9 : Hid (Le w (w5.alloc (Obj.cells #[.slice A4 q5 c4, .slice A2 ot.length c2] 22))) := Lib.hid (HLE8.out.alloc _)
  clear hsl
  go_wp2_with fail
  refine (joined_c _ _ _ HS9.out (by have := HN5.out; have := HG.out.ot; have := HQ5.out; simp at this ⊢; omega)).mono ?_
  rintro e w6 ⟨v6, rfl, hown6, hle10⟩
  have hfl : [ptT l 59 ++ [63], ot].flatten = ptT l 59 ++ 63 :: ot := by simp
  rw [hfl] at hown6
  have HB10 := Lib.hid (hown6.bv (by have := HG.out.prm.tlen 59; have := HG.out.ot; simp; omega))
  have HLE10 := Lib.hid (HLE9.out.trans hle10)
  have HL56 : Hid (Le w5 w6) := Lib.hid (((Le.refl w5).alloc _).trans hle10)
  clear hown6 hle10 hfl
  go_wp2_with fail
  refine (iParams_q w6 _ _ 59 63 59 63 rfl rfl HB10.out (by have := HG.out.prm.tlen 59; have := HG.out.ot; simp; omega) (by decide) (by decide) (HL.out.le HLE10.out)).mono ?_
  rintro e w7 ⟨v7, t7, rfl, ht7, hk7, hle11⟩
  have hu7 := back_tail HG.out.prm HG.out.ne (.inl rfl) (.inr ⟨ot, rfl⟩) (fun _ => HG.out.last) ht7
  rw [hu7] at hk7 ⊢
  have HK7 := Lib.hid hk7
  have HLE11 := Lib.hid (HLE10.out.trans hle11)
  have HK5' := Lib.hid (HK5.out.le (HL56.out.trans hle11))
  obtain ⟨A7, c7, rfl⟩ : ∃ A c, v7 = .slice A l.length c := by obtain ⟨A, c, e, _⟩ := hk7; exact ⟨A, c, e⟩
  clear hu7 ht7 hk7 hle11
  dsimp only
  have HKF := Lib.hid ((HV.out.kq (by have := HG.out.prm.len; omega)).le HLE11.out)
  generalize hpn : ((ptT l 59).length : Int) = pn
  clear hpn
  go_wp2_with fail
  refine (sameKVs_b _ (fun _ => True) w7 _ _ l l true (by simp) HK5'.out HKF.out).mono ?_
  rintro e w8 ⟨rfl, m8, rfl⟩
  have hd8 : Le w7 (w7.drewN m8) := (Le.refl w7).drewN m8
  have HK8 := Lib.hid (HK7.out.le hd8)
  have HF8 := Lib.hid (HKF.out.le hd8)
  have HLE8 := Lib.hid (HLE11.out.trans hd8)
  clear hd8
  generalize w7.drewN m8 = w8 at HK8 HF8 HLE8 ⊢
  go_wp2_with fail
  refine (sameKVs_b _ (fun _ => True) _ _ _ l l true (by simp) HK8.out HF8.out).mono ?_
  rintro e w9 ⟨rfl, m9, rfl⟩
  have HLE12 : Hid (Le w (w8.drewN m9)) := Lib.hid (HLE8.out.drewN m9)
  go_wp2_with fail
  refine (HKN.out _ HLE12).mono ?_
  rintro e w10 ⟨rfl, hle⟩
  have HLE13 := Lib.hid hle
  clear hle
  go_wp2
  go_ret
  exact ⟨rfl, HLE13.out⟩
end Go.Proofs.YtgelnjcjpkklbaaGreatDoor
