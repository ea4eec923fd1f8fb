/- Contract: the law FnParamsActs. -/
import Derived.Test.YtgelnjcjpkklbaaGreatDoorSDo
import Derived.Test.YtgelnjcjpkklbaaGreatDoorHvy
set_option linter.unusedVariables false
set_option linter.unusedSimpArgs false
namespace Go.Proofs.YtgelnjcjpkklbaaGreatDoor
open Go.RowKit

/-- the cells of a row of acts -/
def ZAll (w : World) (xs : List Value) (ds : List Act3) : Prop := xs.length = ds.length * 3 ∧ ∀ j (h : j < ds.length), ∃ x y, xs[j * 3]? = some (.int .i64 ds[j].1) ∧ xs[j * 3 + 1]? = some x ∧ xs[j * 3 + 2]? = some y ∧ Bv w x ds[j].2.1 ∧ Bv w y ds[j].2.2
theorem ZAll.nil (w : World) : ZAll w [] [] := ⟨rfl, fun j h => by simp at h⟩
theorem ZAll.snoc {w : World} {xs : List Value} {l : List Act3} (h : ZAll w xs l) {x y : Value} {d : Act3} (hx : Bv w x d.2.1) (hy : Bv w y d.2.2) : ZAll w (xs ++ [.int .i64 d.1, x, y]) (l ++ [d]) := by
  have hxl := h.1
  refine ⟨by simp only [List.length_append, List.length_cons, List.length_nil, h.1]; omega, fun j hj => ?_⟩
  by_cases hlt : j < l.length
  · obtain ⟨x', y', e0, e1, e2, e3, e4⟩ := h.2 j hlt
    exact ⟨x', y', by rw [List.getElem?_append_left (by omega), List.getElem_append_left hlt]; exact e0, by rw [List.getElem?_append_left (by omega)]; exact e1, by rw [List.getElem?_append_left (by omega)]; exact e2, by rw [List.getElem_append_left hlt]; exact e3, by rw [List.getElem_append_left hlt]; exact e4⟩
  · simp only [List.length_append, List.length_cons, List.length_nil] at hj
    obtain rfl : j = l.length := by omega
    refine ⟨x, y, ?_, ?_, ?_, by simpa using hx, by simpa using hy⟩
    · rw [List.getElem?_append_right (by omega), show l.length * 3 - xs.length = 0 from by omega]; simp
    · rw [List.getElem?_append_right (by omega), show l.length * 3 + 1 - xs.length = 1 from by omega]; rfl
    · rw [List.getElem?_append_right (by omega), show l.length * 3 + 2 - xs.length = 2 from by omega]; rfl
theorem Dw.of_row {w w0 : World} {base : Nat} {E : TypeId} {v : Value} {xs : List Value} {l : List Act3} (h : w.ownsRow base E 3 v l.length xs) (k : ZAll w0 xs l) (hle : Le w0 w) (hl : l.length ≤ 140737488355328) : Dw w v l := by
  have h0 := h
  obtain ⟨_, h2⟩ := h
  rcases h2 with ⟨rfl, hn⟩ | ⟨g, cap, cur, rfl, hg, hh, hle', hm, hs, ht⟩
  · obtain rfl : l = [] := List.eq_nil_of_length_eq_zero hn
    exact ⟨none, 0, rfl, by simp, by simp, by simp, fun h => by simp at h⟩
  · unfold maxLen at hm
    refine ⟨_, _, rfl, hle', hm, hl, fun _ => ⟨g, 0, rfl, fun j hj => ?_⟩⟩
    obtain ⟨x, y, a0, a1, a2, a3, a4⟩ := k.2 j hj
    have b0 := h0.cells (g := g) rfl _ _ a0
    have b1 := h0.cells (g := g) rfl _ _ a1
    have b2 := h0.cells (g := g) rfl _ _ a2
    rw [add_adr] at b0 b1 b2
    exact ⟨x, y, b0, b1, b2, a3.le hle, a4.le hle⟩
theorem sdo_info : ((Tryz.prog).info? 60).map (fun i => (i.zero, i.size, i.bytes)) = some (some (.agg #[.int .i64 0, .slice none 0 0, .slice none 0 0]), 3, 56) := by kernel_rfl
structure GoodPA (l : KVs) (ds : List Act3) : Prop where
  ll : l.length ≤ 64
  dl : ds.length ≤ 64
set_option maxRecDepth 100000 in
set_option maxHeartbeats 8000000 in
theorem fnParamsActs_c (w : World) (v dv : Value) (l : KVs) (ds : List Act3) (hv : Kw w v l) (hd : Dw w dv ds) (hL : Laid w) :
    Calls Tryz.prog 8 #[v, dv] w fun e w' => e = .returned (.bool true) ∧ Le w w' := by
  have HV := Lib.hid hv
  have HD := Lib.hid hd
  have HL := Lib.hid hL
  obtain ⟨A0, c0, rfl⟩ := hv.form
  obtain ⟨A1, c1, rfl⟩ := hd.form
  clear hv hd hL
  have KN : ∀ (W : World), Hid (Le w W) → Calls Tryz.prog 14 #[] W fun e w' => e = .returned (.bool true) ∧ Le w w' := fun W hW => (known_c W (HL.out.le hW.out)).mono fun e w' ⟨h1, h2⟩ => ⟨h1, hW.out.trans h2⟩
  have HKN := Lib.hid KN
  clear KN
  obtain ⟨i0, hi0, hz0, hz1, hz2⟩ := info_parts sdo_info
  go_enter Tryz.func8, Tryz.ntmps8
  go_wp2_with fail
  obtain ⟨r0, hr0⟩ : ∃ r, ftKs l = r := ⟨_, rfl⟩
  refine (zzFits3_c w _ l r0 hr0 HV.out).mono ?_
  rintro e w1 ⟨rfl, hle1⟩
  have HR0 := Lib.hid hr0
  have HLE1 := Lib.hid hle1
  clear hr0 hle1
  cases r0
  case false =>
    go_wp2
    go_ret
    exact ⟨rfl, HLE1.out⟩
  go_wp2_with fail
  obtain ⟨r1, hr1⟩ : ∃ r, ftDs ds = r := ⟨_, rfl⟩
  refine (zzFits9_c w1 _ ds r1 hr1 (HD.out.le HLE1.out)).mono ?_
  rintro e w2 ⟨rfl, hle2⟩
  have HR1 := Lib.hid hr1
  have HLE2 := Lib.hid (HLE1.out.trans hle2)
  clear hr1 hle2
  cases r1
  case false =>
    go_wp2
    go_ret
    exact ⟨rfl, HLE2.out⟩
  have HKQ : Hid (Kq (fun _ => True) w (.slice A0 l.length c0) l) := Lib.hid (HV.out.kq (by have := (ftKs_parts HR0.out).1; omega))
  have HKP := Lib.hid (ftKs_parts HR0.out)
  have HDP := Lib.hid (ftDs_parts HR1.out)
  clear HR0 HR1
  go_wp2_with fail
  refine (heavy_c (fun _ => True) _ l w2 (HKQ.out.le HLE2.out)).mono ?_
  rintro e w3 ⟨n, rfl, hn, hnb, hle3⟩
  have HLE3 := Lib.hid (HLE2.out.trans hle3)
  clear hn hle3
  have hdn : ds.length ≤ 2147483647 := HDP.out.1
  go_wp2
  go_loopg [5, 6] (ds.length) (fun n s i wr => ∃ (k : Nat) (z : Int), n + k = ds.length ∧ i = .int .i64 k ∧ s = .int .i64 z ∧ Le w wr)
  case atStart => exact ⟨0, _, by omega, rfl, rfl, HLE3.out⟩
  case round =>
    obtain ⟨k, z, hn, rfl, rfl, hle⟩ := hrel
    have HL1 := Lib.hid hle
    have HN : gk + k ≤ ds.length ∧ ds.length ≤ gk + k := by omega
    clear hn hle
    go_upto_region 5 with fail
    go_cut [34] from 27 to 34 (fun s34 wc => ∃ b : Bool, s34 = .bool b ∧ wc = wr ∧ (b = true → k < ds.length))
    case first =>
      by_cases hlt : k < ds.length
      · by_cases hz : z ≤ 8192
        · have hz' : decide (z ≤ 8192) = true := decide_eq_true hz
          clear hz
          go_wp2
          go_meet
          case rel => exact ⟨true, rfl, rfl, fun _ => hlt⟩
        · have hz' : decide (z ≤ 8192) = false := decide_eq_false hz
          clear hz
          go_wp2
          go_meet
          case rel => exact ⟨false, rfl, rfl, fun h => by cases h⟩
      · go_wp2
        go_meet
        case rel => exact ⟨false, rfl, rfl, fun h => by cases h⟩
    obtain ⟨b, rfl, rfl, hb⟩ := hcut
    have HB := Lib.hid hb
    clear hb
    cases b
    case true =>
      have hlt := HB.out rfl
      obtain ⟨g, o, rfl, x, y, d0, d1, d2, X, Y⟩ := HD.out.at_ hlt
      have e1 := HL1.out.cell d1
      have e2 := HL1.out.cell d2
      have lx : ds[k].2.1.length ≤ 2147483647 := (HDP.out.2 _ (List.getElem_mem hlt)).1
      have ly : ds[k].2.2.length ≤ 2147483647 := (HDP.out.2 _ (List.getElem_mem hlt)).2
      obtain ⟨Ax, cx, rfl⟩ := X.out.form
      obtain ⟨Ay, cy, rfl⟩ := Y.out.form
      clear d0 d1 d2
      go_wp2
      go_quiet (fail)
      go_wp2
      go_roundg (gk - 1)
      case measure => omega
      case rel => exact ⟨k + 1, _, by omega, by go_num, rfl, HL1.out.drewN _⟩
    case false =>
      clear HB
      go_upto_region 8 with fail
      go_cut [63] from 52 to 63 (fun s63 wx => ∃ b : Bool, s63 = .bool b ∧ wx = wc ∧ (b = false → GoodPA l ds))
      case first =>
        by_cases t0 : 8192 < z
        · have t0' : decide (8192 < z) = true := decide_eq_true t0
          clear t0
          go_wp2
          go_meet
          case rel => exact ⟨true, rfl, rfl, fun h => by cases h⟩
        have t0' : decide (8192 < z) = false := decide_eq_false t0
        clear t0
        by_cases t1 : 64 < l.length
        · have t1' : decide ((64 : Int) < (l.length : Int)) = true := decide_eq_true (by omega)
          clear t1
          go_wp2
          go_meet
          case rel => exact ⟨true, rfl, rfl, fun h => by cases h⟩
        have t1' : decide ((64 : Int) < (l.length : Int)) = false := decide_eq_false (by omega)
        have HT1 : Hid (l.length ≤ 64) := Lib.hid (by omega)
        clear t1
        by_cases t2 : 64 < ds.length
        · have t2' : decide ((64 : Int) < (ds.length : Int)) = true := decide_eq_true (by omega)
          clear t2
          go_wp2
          go_meet
          case rel => exact ⟨true, rfl, rfl, fun h => by cases h⟩
        have t2' : decide ((64 : Int) < (ds.length : Int)) = false := decide_eq_false (by omega)
        have HT2 : Hid (ds.length ≤ 64) := Lib.hid (by omega)
        clear t2
        go_wp2
        go_meet
        case rel => exact ⟨false, rfl, rfl, fun _ => ⟨HT1.out, HT2.out⟩⟩
      obtain ⟨b, rfl, rfl, hb⟩ := hcut
      have HGD := Lib.hid hb
      clear hb
      cases b
      case true =>
        go_wp2_with fail
        refine (HKN.out _ HL1).mono ?_
        rintro e w' ⟨rfl, hle⟩
        have HLE' := Lib.hid hle
        clear hle
        go_wp2
        go_ret
        exact ⟨rfl, HLE'.out⟩
      have hl64 := (HGD.out rfl).ll
      have hd64 := (HGD.out rfl).dl
      clear HGD
      go_wp2
      rename World => wk
      obtain ⟨wo, hwo⟩ : ∃ wo : World, wo = wk := ⟨_, rfl⟩
      clear hwo
      go_loopg [7, 8] (ds.length) (fun n sv i wr => ∃ (k : Nat) (xs : List Value), n + k = ds.length ∧ i = .int .i64 k ∧ Le w wr ∧ wr.ownsRow w.heap.size 60 3 sv k xs ∧ ZAll w xs (ds.take k))
      case atStart => exact ⟨0, [], by omega, rfl, HL1.out, World.ownsRow_nil _ _ _ _, ZAll.nil _⟩
      case round =>
        rename World => wr
        obtain ⟨k, xs, hn, rfl, hle, hown, hpa⟩ := hrel
        have HO := Lib.hid hown
        have HLE := Lib.hid hle
        have HPA := Lib.hid hpa
        have HN2 : gk + k ≤ ds.length ∧ ds.length ≤ gk + k := by omega
        have hsz := hle.size
        clear hn hown hpa
        by_cases hkl : k < ds.length
        · obtain ⟨g, o, rfl, x, y, d0, d1, d2, X, Y⟩ := HD.out.at_ hkl
          have d0 := hle.cell d0
          have d1 := hle.cell d1
          have d2 := hle.cell d2
          have HZ : Hid (ZAll w (xs ++ [.int .i64 ds[k].1, x, y]) (ds.take (k + 1))) := Lib.hid (by
            rw [List.take_succ_eq_append_getElem hkl]
            exact HPA.out.snoc X.out Y.out)
          have hx1 := X.out.oneU
          have hy1 := Y.out.oneU
          clear hle
          go_wp2_with ((at_builtin; refine wpList_append_lies _ rfl _ _ 59 rfl w.heap.size 60 i0 (.agg #[.int .i64 0, .slice none 0 0, .slice none 0 0]) 3 56 Tryz.underlying59 hi0 hz0 hz1 hz2 rfl (by decide) _ _ _ rfl (HO.out.alloc _) ⟨wr.heap.size, 0, none⟩ 1 1 [.int .i64 ds[k].1, x, y] rfl rfl ?c1 ?c2 ?c3 ?c4 ?c5 ?c6 (wr.heap.size + 1) ?c7 ?_))
          case c1 => exact World.news_of_block (heap_alloc_new wr _)
          case c2 => intro u hu; simp only [List.mem_cons, List.mem_nil_iff, or_false] at hu; rcases hu with rfl | rfl | rfl <;> first | rfl | assumption
          case c3 => omega
          case c4 => unfold maxLen; omega
          case c5 => omega
          case c6 => simp; omega
          case c7 => simp
          intro g2 cap2 w2 hown2 hgrow2 hat2 hlt2
          have HLE2 : Hid (Le w w2) := Lib.hid (Below.grown' (HLE.out.alloc _) hgrow2 (Nat.le_refl _) (fun g hg => (own_row' HO.out g hg).1))
          have HO2 := Lib.hid hown2
          clear hown2 hgrow2 hat2 hlt2 d0 d1 d2
          go_wp2
          go_roundg (gk - 1)
          case measure => omega
          case rel => exact ⟨k + 1, _, by omega, by go_num, HLE2.out, HO2.out, HZ.out⟩
        · obtain rfl : k = ds.length := by omega
          have HDS : Hid (Dw wr u7 ds) := Lib.hid (Dw.of_row HO.out (by have h := HPA.out; rw [List.take_of_length_le (Nat.le_refl _)] at h; exact h) HLE.out (by omega))
          obtain ⟨A7, c7, rfl⟩ := HDS.out.form
          clear hle
          go_wp2_with fail
          refine (iDo_c (fun _ => True) wr _ _ l ds (HKQ.out.le HLE.out) (HD.out.le HLE.out) ⟨by omega, fun x hx => by have := HKP.out.2 x hx; omega⟩ (by omega) (fun d hd => by have := HDP.out.2 d hd; omega)).mono ?_
          rintro e w5 ⟨v1, v2, rfl, hk1, hk2, hle5⟩
          have HK1 := Lib.hid hk1
          have HK2 := Lib.hid hk2
          have HL5 := Lib.hid hle5
          obtain ⟨m1, B1, k1, rfl⟩ : ∃ n A c, v1 = .slice A n c := by obtain ⟨A, c, e, _⟩ := hk1; exact ⟨_, A, c, e⟩
          obtain ⟨m2, B2, k2, rfl⟩ : ∃ n A c, v2 = .slice A n c := by obtain ⟨A, c, e, _⟩ := hk2; exact ⟨_, A, c, e⟩
          have b1 : (actsK l ds).1.length ≤ 1099511627776 := by obtain ⟨A, c, _, _, _, h, _⟩ := hk1; exact h
          have b2 : (actsK l ds).2.length ≤ 1099511627776 := by obtain ⟨A, c, _, _, _, h, _⟩ := hk2; exact h
          have HB1 := Lib.hid b1
          have HB2 := Lib.hid b2
          clear hk1 hk2 hle5 b1 b2
          go_wp2_with fail
          refine (kvsOf_c _ _ l w5 w5 (Le.refl w5) ((HKQ.out.le HLE.out).le HL5.out)).mono ?_
          rintro e w6 ⟨v6, rfl, hkr, hle6⟩
          have HK6 := Lib.hid (hkr.kq hle6 (by omega))
          have HL6 := Lib.hid hle6
          clear hkr hle6
          go_wp2_with fail
          refine (sDo_c (fun _ => True) w6 _ _ l ds HK6.out ((HDS.out.le HL5.out).le HL6.out) (by omega) (by omega)).mono ?_
          rintro e w7 ⟨hle7, hres⟩
          have HL7 := Lib.hid (HL6.out.trans hle7)
          have HLE7 := Lib.hid (HLE.out.trans (HL5.out.trans (HL6.out.trans hle7)))
          clear hle7
          rcases hres with ⟨y1, y2, rfl, _, hy1, hy2⟩ | ⟨y1, y2, rfl⟩
          · have HY1 := Lib.hid hy1
            have HY2 := Lib.hid hy2
            clear hy1 hy2
            go_wp2_with fail
            refine (kvsOf_c _ _ (actsK l ds).1 w7 w7 (Le.refl w7) (HK1.out.le HL7.out)).mono ?_
            rintro e w8 ⟨v8, rfl, hkr, hle8⟩
            have HK8 := Lib.hid (hkr.kq hle8 HB1.out)
            have HY18 := Lib.hid (HY1.out.le hle8)
            have HL8 := Lib.hid hle8
            clear hkr hle8
            go_wp2_with fail
            refine (samePairs_b (fun _ => True) (fun _ => True) w8 _ _ (actsK l ds).1 (actsK l ds).1 true (by simp) HK8.out HY18.out).mono ?_
            rintro e w9 ⟨rfl, m9, rfl⟩
            have HL9 : Hid (Le w7 (w8.drewN m9)) := Lib.hid (HL8.out.drewN m9)
            generalize w8.drewN m9 = w9 at HL9 ⊢
            go_wp2_with fail
            refine (kvsOf_c _ _ (actsK l ds).2 w9 w9 (Le.refl w9) ((HK2.out.le HL7.out).le HL9.out)).mono ?_
            rintro e w10 ⟨v10, rfl, hkr, hle10⟩
            have HK10 := Lib.hid (hkr.kq hle10 HB2.out)
            have HL10 := Lib.hid (HL9.out.trans hle10)
            have HY210 := Lib.hid (HY2.out.le HL10.out)
            clear hkr hle10
            go_wp2_with fail
            refine (samePairs_b (fun _ => True) (fun _ => True) w10 _ _ (actsK l ds).2 (actsK l ds).2 true (by simp) HK10.out HY210.out).mono ?_
            rintro e w11 ⟨rfl, m11, rfl⟩
            have HL11 : Hid (Le w (w10.drewN m11)) := Lib.hid (HLE7.out.trans (HL10.out.drewN m11))
            go_wp2_with fail
            refine (HKN.out _ HL11).mono ?_
            rintro e w12 ⟨rfl, hle⟩
            have HLE13 := Lib.hid hle
            clear hle
            go_wp2
            go_ret
            exact ⟨rfl, HLE13.out⟩
          · go_wp2_with fail
            refine (HKN.out _ HLE7).mono ?_
            rintro e w12 ⟨rfl, hle⟩
            have HLE13 := Lib.hid hle
            clear hle
            go_wp2
            go_ret
            exact ⟨rfl, HLE13.out⟩
end Go.Proofs.YtgelnjcjpkklbaaGreatDoor
