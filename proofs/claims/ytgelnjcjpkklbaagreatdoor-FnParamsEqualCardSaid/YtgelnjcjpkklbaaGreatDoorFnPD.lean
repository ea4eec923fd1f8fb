/- Contract: the law FnParamsDo. -/
import Derived.Test.YtgelnjcjpkklbaaGreatDoorActd
import Derived.Test.YtgelnjcjpkklbaaGreatDoorFt9
import Derived.Test.YtgelnjcjpkklbaaGreatDoorSEq
set_option linter.unusedVariables false
set_option linter.unusedSimpArgs false
namespace Go.Proofs.YtgelnjcjpkklbaaGreatDoor
open Go.RowKit

theorem dk_add {K V : Tx} : ∀ {l : KVs}, DK l → DK (addKV l K V)
  | [], _ => by unfold addKV DK; simp
  | x :: r, h => by
    obtain ⟨h1, h2⟩ := List.pairwise_cons.1 h
    unfold addKV
    split
    · rename_i e
      exact List.pairwise_cons.2 ⟨fun y hy => by rw [← e]; exact h1 y hy, h2⟩
    · rename_i e
      refine List.pairwise_cons.2 ⟨fun y hy => ?_, dk_add h2⟩
      rcases addKV_mem hy with h | rfl
      · exact h1 y h
      · exact e
theorem actK_len (l : KVs) (d : Act3) : (actK l d).1.length ≤ l.length + 1 := by
  unfold actK
  split
  · exact addKV_length _ _ _
  · split
    · exact Nat.le_trans (List.length_filter_le _ _) (Nat.le_succ _)
    · split
      · exact Nat.le_succ _
      · split
        · exact Nat.le_succ _
        · split <;> exact Nat.le_succ _
theorem dk_act {l : KVs} (h : DK l) (d : Act3) : DK (actK l d).1 := by
  unfold actK
  split
  · exact dk_add h
  · split
    · exact List.Pairwise.filter _ h
    · split
      · exact h
      · split
        · exact h
        · split <;> exact h
/-- what was told: its cells in w, a key's text in w, a value's in w0 -/
def WCells (base : Nat) (w0 w : World) (xs : List Value) (l : KVs) : Prop :=
  xs.length = l.length * 2 ∧ ∀ j (h : j < l.length), ∃ x y, xs[j * 2]? = some x ∧ xs[j * 2 + 1]? = some y ∧ Bt base w x l[j].1 ∧ Bv w0 y l[j].2
theorem WCells.keep {base : Nat} {w0 w w' : World} {xs : List Value} {l : KVs} (h : WCells base w0 w xs l) (k : ∀ (g : Nat) (cur : Array Value) (fz : Nat × Nat), w.heap[g]? = some (.cells cur 5 fz) → w'.heap[g]? = w.heap[g]?) : WCells base w0 w' xs l :=
  ⟨h.1, fun j hj => by obtain ⟨x, y, h1, h2, h3, h4⟩ := h.2 j hj; exact ⟨x, y, h1, h2, h3.keep k, h4⟩⟩
theorem WCells.snoc {base : Nat} {w0 w : World} {xs : List Value} {l : KVs} (h : WCells base w0 w xs l) {x y : Value} {z : Tx × Tx} (h1 : Bt base w x z.1) (h2 : Bv w0 y z.2) : WCells base w0 w (xs ++ [x, y]) (l ++ [z]) := by
  have hx := h.1
  refine ⟨by simp only [List.length_append, List.length_cons, List.length_nil, hx]; omega, fun j hj => ?_⟩
  by_cases hlt : j < l.length
  · obtain ⟨x', y', a1, a2, a3, a4⟩ := h.2 j hlt
    refine ⟨x', y', ?_, ?_, ?_, ?_⟩
    · rw [List.getElem?_append_left (by omega)]; exact a1
    · rw [List.getElem?_append_left (by omega)]; exact a2
    · rw [List.getElem_append_left hlt]; exact a3
    · rw [List.getElem_append_left hlt]; exact a4
  · simp only [List.length_append, List.length_cons, List.length_nil] at hj
    obtain rfl : j = l.length := by omega
    refine ⟨x, y, ?_, ?_, ?_, ?_⟩
    · rw [List.getElem?_append_right (by omega), show l.length * 2 - xs.length = 0 from by omega]; rfl
    · rw [List.getElem?_append_right (by omega), show l.length * 2 + 1 - xs.length = 1 from by omega]; rfl
    · simpa using h1
    · simpa using h2
theorem WCells.pall {base : Nat} {w0 w : World} {xs : List Value} {l : KVs} (h : WCells base w0 w xs l) (k : Le w0 w) : PAll w xs l :=
  ⟨h.1, fun j hj => by obtain ⟨x, y, h1, h2, h3, h4⟩ := h.2 j hj; exact ⟨x, y, h1, h2, h3.1, h4.le k⟩⟩
structure GoodPD (l : KVs) (ds : List Act3) : Prop where
  ll : l.length ≤ 64
  dl : ds.length ≤ 64
  ap : apB l = true
structure DoW (w : World) (l ts : KVs) (s6 s7 : Value) (wr : World) : Prop where
  le : Le w wr
  now : Lq w wr s6 l
  want : ∃ xs, wr.ownsRow w.heap.size 39 2 s7 ts.length xs ∧ WCells w.heap.size w wr xs ts
set_option maxRecDepth 100000 in
set_option maxHeartbeats 8000000 in
theorem fnParamsDo_c (w : World) (v dv : Value) (l : KVs) (ds : List Act3) (hv : Kw w v l) (hd : Dw w dv ds) (hL : Laid w) :
    Calls Tryz.prog 9 #[v, dv] w fun e w' => e = .returned (.bool true) ∧ Le w w' := by
  have HV := Lib.hid hv
  have HD := Lib.hid hd
  have HL := Lib.hid hL
  obtain ⟨A0, c0, rfl⟩ := hv.form
  obtain ⟨A1, c1, rfl⟩ := hd.form
  clear hv hd hL
  have KN : ∀ (W : World), Hid (Le w W) → Calls Tryz.prog 14 #[] W fun e w' => e = .returned (.bool true) ∧ Le w w' := fun W hW => (known_c W (HL.out.le hW.out)).mono fun e w' ⟨h1, h2⟩ => ⟨h1, hW.out.trans h2⟩
  have HKN := Lib.hid KN
  clear KN
  go_enter Tryz.func9, Tryz.ntmps9
  go_wp2_with fail
  obtain ⟨r0, hr0⟩ : ∃ r, ftKs l = r := ⟨_, rfl⟩
  refine (zzFits3_c w _ l r0 hr0 HV.out).mono ?_
  rintro e w1 ⟨rfl, hle1⟩
  have HR0 := Lib.hid hr0
  have HLE1 := Lib.hid hle1
  clear hr0 hle1
  cases r0
  case false =>
    go_wp2
    go_ret
    exact ⟨rfl, HLE1.out⟩
  go_wp2_with fail
  obtain ⟨r1, hr1⟩ : ∃ r, ftDs ds = r := ⟨_, rfl⟩
  refine (zzFits9_c w1 _ ds r1 hr1 (HD.out.le HLE1.out)).mono ?_
  rintro e w2 ⟨rfl, hle2⟩
  have HR1 := Lib.hid hr1
  have HLE2 := Lib.hid (HLE1.out.trans hle2)
  clear hr1 hle2
  cases r1
  case false =>
    go_wp2
    go_ret
    exact ⟨rfl, HLE2.out⟩
  have HKQ : Hid (Kq (fun _ => True) w (.slice A0 l.length c0) l) := Lib.hid (HV.out.kq (by have := (ftKs_parts HR0.out).1; omega))
  go_upto_region 3 with fail
  go_cut [32] from 20 to 32 (fun s32 wc => ∃ g : Bool, s32 = .bool g ∧ Le w wc ∧ (g = false → GoodPD l ds))
  case first =>
    by_cases t1 : 64 < l.length
    · have t1' : decide ((64 : Int) < (l.length : Int)) = true := decide_eq_true (by omega)
      clear t1
      go_wp2
      go_meet
      case rel => exact ⟨true, rfl, HLE2.out, fun h => by cases h⟩
    have t1' : decide ((64 : Int) < (l.length : Int)) = false := decide_eq_false (by omega)
    have HT1 : Hid (l.length ≤ 64) := Lib.hid (by omega)
    clear t1
    by_cases t2 : 64 < ds.length
    · have t2' : decide ((64 : Int) < (ds.length : Int)) = true := decide_eq_true (by omega)
      clear t2
      go_wp2
      go_meet
      case rel => exact ⟨true, rfl, HLE2.out, fun h => by cases h⟩
    have t2' : decide ((64 : Int) < (ds.length : Int)) = false := decide_eq_false (by omega)
    have HT2 : Hid (ds.length ≤ 64) := Lib.hid (by omega)
    clear t2
    go_wp2_with fail
    obtain ⟨r2, hr2⟩ : ∃ r, apB l = r := ⟨_, rfl⟩
    refine (isOnce_c (fun _ => True) _ l w2 r2 hr2 (HKQ.out.le HLE2.out)).mono ?_
    rintro e w3 ⟨rfl, m, rfl⟩
    have HR2 := Lib.hid hr2
    have HLE3 : Hid (Le w (w2.drewN m)) := Lib.hid (HLE2.out.drewN m)
    clear hr2
    cases r2
    case false =>
      go_wp2
      go_meet
      case rel => exact ⟨true, rfl, HLE3.out, fun h => by cases h⟩
    case true =>
      go_wp2
      go_meet
      case rel => exact ⟨false, rfl, HLE3.out, fun _ => ⟨HT1.out, HT2.out, HR2.out⟩⟩
  obtain ⟨g, rfl, hle, hgood⟩ := hcut
  have HLE := Lib.hid hle
  have HGD := Lib.hid hgood
  clear hle hgood
  cases g
  case true =>
    go_wp2_with fail
    refine (HKN.out _ HLE).mono ?_
    rintro e w' ⟨rfl, hle⟩
    have HLE' := Lib.hid hle
    clear hle
    go_wp2
    go_ret
    exact ⟨rfl, HLE'.out⟩
  have HG := Lib.hid (HGD.out rfl)
  clear HGD HR1 HLE1 HLE2
  have hl64 := HG.out.ll
  have hd64 := HG.out.dl
  go_wp2
  go_loopg [5] (l.length) (fun n i wr => ∃ k : Nat, n + k = l.length ∧ i = .int .i64 k ∧ Le w wr ∧ Hid (∀ x ∈ l.take k, x.1.length ≤ 8192 ∧ x.2.length ≤ 8192))
  case atStart => exact ⟨0, by omega, rfl, HLE.out, Lib.hid (by simp)⟩
  case round =>
    obtain ⟨k, hn, rfl, hle, HQ⟩ := hrel
    have HL1 := Lib.hid hle
    have HN : gk + k ≤ l.length ∧ l.length ≤ gk + k := by omega
    clear hn hle
    by_cases hlt : k < l.length
    · obtain ⟨g, o, rfl, x, y, d1, d2, X, Y⟩ := HV.out.at_ hlt
      have e1 := HL1.out.cell d1
      have e2 := HL1.out.cell d2
      obtain ⟨Ax, cx, rfl⟩ := X.out.form
      obtain ⟨Ay, cy, rfl⟩ := Y.out.form
      clear d1 d2
      obtain ⟨r3, hr3⟩ : ∃ r, lowB l[k].1 = r := ⟨_, rfl⟩
      have HR3 := Lib.hid hr3
      clear hr3
      go_wp2_with fail
      refine (isLow_c _ l[k].1 wr r3 HR3.out (X.out.le HL1.out)).mono ?_
      rintro e w' ⟨rfl, rfl⟩
      cases r3
      case false =>
        go_wp2_with fail
        refine (HKN.out _ HL1).mono ?_
        rintro e w' ⟨rfl, hle⟩
        have HLE' := Lib.hid hle
        clear hle
        go_wp2
        go_ret
        exact ⟨rfl, HLE'.out⟩
      by_cases t1 : 8192 < l[k].2.length
      · have t1' : decide ((8192 : Int) < (l[k].2.length : Int)) = true := decide_eq_true (by omega)
        clear t1
        go_wp2_with fail
        refine (HKN.out _ HL1).mono ?_
        rintro e w' ⟨rfl, hle⟩
        have HLE' := Lib.hid hle
        clear hle
        go_wp2
        go_ret
        exact ⟨rfl, HLE'.out⟩
      have t1' : decide ((8192 : Int) < (l[k].2.length : Int)) = false := decide_eq_false (by omega)
      have HX : Hid (∀ x ∈ l.take (k + 1), x.1.length ≤ 8192 ∧ x.2.length ≤ 8192) := Lib.hid (by
        intro x hx
        rw [List.take_succ_eq_append_getElem hlt, List.mem_append, List.mem_singleton] at hx
        rcases hx with hx | rfl
        · exact HQ.out x hx
        · exact ⟨(lowB_word HR3.out).2, by omega⟩)
      clear t1
      go_wp2
      go_roundg (gk - 1)
      case measure => omega
      case rel => exact ⟨k + 1, by omega, by go_num, HL1.out, HX⟩
    · have HSM : Hid (∀ x ∈ l, x.1.length ≤ 8192 ∧ x.2.length ≤ 8192) := Lib.hid (by have h := HQ.out; rw [List.take_of_length_le (by omega)] at h; exact h)
      have hst : DoW w l [] (.slice A0 l.length c0) (.slice none 0 0) wr := ⟨HL1.out, by
        obtain ⟨A, c, e, h1, h2, h3, h4⟩ := HKQ.out
        refine Lq.le ⟨A, c, e, h1, h2, h3, fun hn => ?_⟩ HL1.out
        obtain ⟨g, o, e, _, hc⟩ := h4 hn
        exact ⟨g, o, e, fun j hj => by obtain ⟨x, y, a1, a2, a3, a4⟩ := hc j hj; exact ⟨x, y, a1, a2, a3.1, a4.1⟩⟩, [], World.ownsRow_nil _ _ _ _, rfl, fun j hj => by simp at hj⟩
      have HST := Lib.hid hst
      clear hst HQ
      go_wp2
      rename World => wr
      obtain ⟨wo, hwo⟩ : ∃ wo : World, wo = wr := ⟨_, rfl⟩
      clear hwo
      go_loopg [6, 7, 8] (ds.length) (fun n s6 s7 i wx => ∃ k : Nat, n + k = ds.length ∧ i = .int .i64 k ∧ DoW w (actsK l (ds.take k)).1 (actsK l (ds.take k)).2 s6 s7 wx ∧ Hid (∀ d ∈ ds.take k, d.2.1.length ≤ 8192 ∧ d.2.2.length ≤ 8192) ∧ Hid (DK (actsK l (ds.take k)).1) ∧ Hid ((actsK l (ds.take k)).1.length ≤ 64 + k))
      case atStart => exact ⟨0, by omega, rfl, HST.out, Lib.hid (by simp), Lib.hid (dk_of_ap HG.out.ap), Lib.hid HG.out.ll⟩
      case round =>
        rename World => wx
        obtain ⟨k, hn, rfl, hdw, HSD, HDK, HLL⟩ := hrel
        have HW := Lib.hid hdw
        have HN2 : gk + k ≤ ds.length ∧ ds.length ≤ gk + k := by omega
        clear hn hdw
        by_cases hlt2 : k < ds.length
        · obtain ⟨g, o, rfl, x, y, d0, d1, d2, X, Y⟩ := HD.out.at_ hlt2
          have e0 := HW.out.le.cell d0
          have e1 := HW.out.le.cell d1
          have e2 := HW.out.le.cell d2
          have HT : Hid (actsK l (ds.take (k + 1)) = ((actK (actsK l (ds.take k)).1 ds[k]).1, (actsK l (ds.take k)).2 ++ [(actK (actsK l (ds.take k)).1 ds[k]).2])) := Lib.hid (by rw [List.take_succ_eq_append_getElem hlt2, actsK_snoc])
          have HTN := Lib.hid (actsK_len l ds k (by omega))
          have HTK : Hid (ds.take (k + 1) = ds.take k ++ [ds[k]]) := Lib.hid (List.take_succ_eq_append_getElem hlt2)
          obtain ⟨Ax, cx, rfl⟩ := X.out.form
          obtain ⟨Ay, cy, rfl⟩ := Y.out.form
          clear d0 d1 d2
          generalize actsK l (ds.take k) = st0 at HW HT HTN HDK HLL
          obtain ⟨l0, ts⟩ := st0
          generalize ds[k] = dd at *
          obtain ⟨op, K, V⟩ := dd
          dsimp only at *
          have HL1 := Lib.hid HW.out.le
          by_cases o1 : op < 0
          · have f1 : decide (op < 0) = true := decide_eq_true o1
            clear o1
            go_wp2_with fail
            refine (HKN.out _ HL1).mono ?_
            rintro e w' ⟨rfl, hle⟩
            have HLE' := Lib.hid hle
            clear hle
            go_wp2
            go_ret
            exact ⟨rfl, HLE'.out⟩
          have f1 : decide (op < 0) = false := decide_eq_false o1
          by_cases o2 : 4 < op
          · have f2 : decide (4 < op) = true := decide_eq_true o2
            clear o2 o1
            go_wp2_with fail
            refine (HKN.out _ HL1).mono ?_
            rintro e w' ⟨rfl, hle⟩
            have HLE' := Lib.hid hle
            clear hle
            go_wp2
            go_ret
            exact ⟨rfl, HLE'.out⟩
          have f2 : decide (4 < op) = false := decide_eq_false o2
          have HOP : Hid (0 ≤ op ∧ op ≤ 4) := Lib.hid (by omega)
          clear o1 o2
          obtain ⟨r3, hr3⟩ : ∃ r, lowB K = r := ⟨_, rfl⟩
          have HR3 := Lib.hid hr3
          clear hr3
          go_wp2_with fail
          refine (isLow_c _ K _ r3 HR3.out (X.out.le HL1.out)).mono ?_
          rintro e w' ⟨rfl, rfl⟩
          cases r3
          case false =>
            go_wp2_with fail
            refine (HKN.out _ HL1).mono ?_
            rintro e w' ⟨rfl, hle⟩
            have HLE' := Lib.hid hle
            clear hle
            go_wp2
            go_ret
            exact ⟨rfl, HLE'.out⟩
          by_cases t1 : 8192 < V.length
          · have t1' : decide ((8192 : Int) < (V.length : Int)) = true := decide_eq_true (by omega)
            clear t1
            go_wp2_with fail
            refine (HKN.out _ HL1).mono ?_
            rintro e w' ⟨rfl, hle⟩
            have HLE' := Lib.hid hle
            clear hle
            go_wp2
            go_ret
            exact ⟨rfl, HLE'.out⟩
          have t1' : decide ((8192 : Int) < (V.length : Int)) = false := decide_eq_false (by omega)
          have HDV : Hid (K.length ≤ 8192 ∧ V.length ≤ 8192) := Lib.hid ⟨(lowB_word HR3.out).2, by omega⟩
          clear t1
          obtain ⟨A6, c6, rfl⟩ : ∃ A c, u6 = .slice A l0.length c := by obtain ⟨A, c, e, _⟩ := HW.out.now; exact ⟨A, c, e⟩
          have HNW := Lib.hid (HW.out.now.le ((Le.refl wx).alloc (Obj.cells #[.slice none 0 0, .slice none 0 0] 39)))
          have HTB : Hid ((wx.alloc (Obj.cells #[.slice none 0 0, .slice none 0 0] 39)).heap[wx.heap.size]? = some (.cells #[.slice none 0 0, .slice none 0 0] 39 (0, 0))) := Lib.hid (heap_alloc_new wx _)
          have HLA : Hid (Le w (wx.alloc (Obj.cells #[.slice none 0 0, .slice none 0 0] 39))) := Lib.hid (HL1.out.alloc _)
          have HSA : Hid (wx.heap.size + 1 ≤ (wx.alloc (Obj.cells #[.slice none 0 0, .slice none 0 0] 39)).heap.size) := Lib.hid (by simp)
          have HXX := Lib.hid ((Le.refl wx).alloc (Obj.cells #[.slice none 0 0, .slice none 0 0] 39))
          have e0' := HXX.out.cell e0
          have e1' := HXX.out.cell e1
          have e2' := HXX.out.cell e2
          go_wp2_with fail
          refine (acted_c w _ HLA.out _ _ _ l0 op K V HNW.out X.out Y.out HDK.out HOP.out (by have := HLL.out; omega)).mono ?_
          rintro e w4 ⟨v', tk, tv, rfl, ⟨xs, hox, hpx⟩, hbk, hbv, hle4⟩
          obtain ⟨n1, B1, k1, rfl⟩ : ∃ n A c, tk = .slice A n c := by obtain ⟨A, c, e, _⟩ := hbk.1; exact ⟨_, A, c, e⟩
          obtain ⟨n2, B2, k2, rfl⟩ : ∃ n A c, tv = .slice A n c := by obtain ⟨A, c, e, _⟩ := hbv; exact ⟨_, A, c, e⟩
          have htb4 := hle4.heap HTB.out
          have x0 : w4.cell? ⟨wx.heap.size, 0, none⟩ = some (.slice none 0 0) := cell_cells htb4 0
          have x1 : w4.cell? ⟨wx.heap.size, 1, none⟩ = some (.slice none 0 0) := cell_cells htb4 1
          have z0 : w4.frozen? ⟨wx.heap.size, 0, none⟩ = false := frozen_cells htb4 0
          have z1 : w4.frozen? ⟨wx.heap.size, 1, none⟩ = false := frozen_cells htb4 1
          obtain ⟨ws, hws, hwc⟩ := HW.out.want
          have hxb : w.heap.size ≤ wx.heap.size := HL1.out.size
          have hnew : v'.ownBlock ≠ some wx.heap.size := fun e => by have := (own_row' hox _ e).1; have := HSA.out; omega
          have hnew2 : u7.ownBlock ≠ some wx.heap.size := fun e => by
            obtain ⟨_, c, fz, hc⟩ := own_row' hws _ e
            have := lt_of_heap hc
            omega
          have hle5 : Le wx w4 := HXX.out.trans hle4
          have b1 := heap_set htb4 0 (.slice B1 n1 k1)
          have b2 := heap_set b1 1 (.slice B2 n2 k2)
          have HB2 : Hid (((w4.setCell ⟨wx.heap.size, 0, none⟩ (.slice B1 n1 k1)).setCell ⟨wx.heap.size, 1, none⟩ (.slice B2 n2 k2)).heap[wx.heap.size]? = some (.cells #[.slice B1 n1 k1, .slice B2 n2 k2] 39 (0, 0))) := Lib.hid b2
          have HOX := Lib.hid ((hox.kept (kp_set w4 wx.heap.size 0 (.slice B1 n1 k1)) (.inr hnew)).kept (kp_set _ wx.heap.size 1 (.slice B2 n2 k2)) (.inr hnew))
          have HWS := Lib.hid (((own_le hws hle5).kept (kp_set w4 wx.heap.size 0 (.slice B1 n1 k1)) (.inr hnew2)).kept (kp_set _ wx.heap.size 1 (.slice B2 n2 k2)) (.inr hnew2))
          have HWC := Lib.hid (((hwc.keep (w' := w4) (fun g _ _ hg => hle5.block g (lt_of_heap hg))).keep (setx_bytes htb4 (by decide) 0 (.slice B1 n1 k1))).keep (setx_bytes b1 (by decide) 1 (.slice B2 n2 k2)))
          have HBK := Lib.hid ((((Bt.mono hbk (show w.heap.size ≤ _ from Nat.le_trans hxb HXX.out.size)).keep (setx_bytes htb4 (by decide) 0 (.slice B1 n1 k1))).keep (setx_bytes b1 (by decide) 1 (.slice B2 n2 k2))))
          have HBV := Lib.hid hbv
          have HPX := Lib.hid hpx
          have HLE5 : Hid (Le w ((w4.setCell ⟨wx.heap.size, 0, none⟩ (.slice B1 n1 k1)).setCell ⟨wx.heap.size, 1, none⟩ (.slice B2 n2 k2))) := Lib.hid (Below.setCell (Below.setCell (HL1.out.trans hle5) hxb _) hxb _)
          have HNN : Hid (∀ g, v'.ownBlock = some g → u7.ownBlock ≠ some g) := Lib.hid (fun g e1 e2 => by
            have h1 := (own_row' hox _ e1).1
            obtain ⟨_, c, fz, hc⟩ := own_row' hws _ e2
            have h2 := lt_of_heap hc
            have := HSA.out
            omega)
          obtain ⟨n6, B6, k6, rfl⟩ : ∃ n A c, v' = .slice A n c := by
            rcases hox.2 with ⟨e, _⟩ | ⟨g, cap, cur, e, _⟩
            · exact ⟨0, none, 0, e⟩
            · exact ⟨_, _, _, e⟩
          clear hox hpx hbk hbv hle4 htb4 hws hwc hxb hnew hnew2 hle5 b1 b2
          go_upto_region 19 with fail
          clear x0 x1 z0 z1
          generalize (w4.setCell ⟨wx.heap.size, 0, none⟩ (.slice B1 n1 k1)).setCell ⟨wx.heap.size, 1, none⟩ (.slice B2 n2 k2) = w5 at HB2 HOX HWS HWC HBK HLE5 ⊢
          have x0 : w5.cell? ⟨wx.heap.size, 0, none⟩ = some (.slice B1 n1 k1) := cell_cells HB2.out 0
          have x1 : w5.cell? ⟨wx.heap.size, 1, none⟩ = some (.slice B2 n2 k2) := cell_cells HB2.out 1
          obtain ⟨i0, hi0, hz0, hz1, hz2⟩ := info_parts ikv_info
          have htn : ts.length ≤ 64 := by have := HTN.out; omega
          have hsz5 := HLE5.out.size
          go_wp2_with (at_builtin; refine wpList_append_lies _ rfl _ _ 23 rfl w.heap.size 39 i0 (.agg #[.slice none 0 0, .slice none 0 0]) 2 48 Tryz.underlying23 hi0 hz0 hz1 hz2 rfl (by decide) _ _ _ rfl (HWS.out.alloc _) ⟨w5.heap.size, 0, none⟩ 1 1 [.slice B1 n1 k1, .slice B2 n2 k2] rfl rfl ?c1 ?c2 ?c3 ?c4 ?c5 ?c6 (w5.heap.size + 1) ?c7 ?_)
          case c1 => exact World.news_of_block (heap_alloc_new w5 _)
          case c2 => intro u hu; simp only [List.mem_cons, List.mem_nil_iff, or_false] at hu; rcases hu with rfl | rfl <;> rfl
          case c3 => omega
          case c4 => unfold maxLen; omega
          case c5 => omega
          case c6 => simp; omega
          case c7 => simp
          intro g2 cap2 w6 hown2 hgrow2 hat2 hlt2'
          have hrow := own_row' HWS.out
          have hkeep : ∀ (g : Nat) (cur : Array Value) (fz : Nat × Nat), w5.heap[g]? = some (.cells cur 5 fz) → w6.heap[g]? = w5.heap[g]? := by
            intro g cur fz hg
            have hlt := lt_of_heap hg
            refine (hgrow2.block g (by simp; omega) ?_).trans (Below.heap_alloc _ _ _ hlt)
            intro e
            obtain ⟨_, c', fz', h⟩ := hrow g e.symm
            rw [hg] at h
            injection h with h
            injection h with _ h
            exact absurd h (by decide)
          have HLE6 : Hid (Le w w6) := Lib.hid (Below.grown' (HLE5.out.alloc _) hgrow2 (Nat.le_refl _) (fun g hg => (hrow g hg).1))
          have hox6 := (HOX.out.alloc (Obj.cells #[.slice B1 n1 k1, .slice B2 n2 k2] 39)).kept hgrow2 (by
            cases hq : (Value.slice B6 n6 k6).ownBlock with
            | none => exact .inl rfl
            | some g => exact .inr (fun e => HNN.out g hq e.symm))
          have HDW : Hid (DoW w (actK l0 (op, K, V)).1 (ts ++ [(actK l0 (op, K, V)).2]) (.slice B6 n6 k6) (.slice (some ⟨g2, 0, none⟩) (ts.length + 1) cap2) w6) := Lib.hid ⟨HLE6.out, Lq.of_row hox6 HPX.out (by
              have h1 : (actK l0 (op, K, V)).1.length ≤ l0.length + 1 := actK_len _ _
              have := HLL.out; omega), _, by rw [List.length_append]; exact hown2, (HWC.out.snoc HBK.out HBV.out (z := (actK l0 (op, K, V)).2)).keep hkeep⟩
          have HS2 : Hid (∀ d ∈ ds.take (k + 1), d.2.1.length ≤ 8192 ∧ d.2.2.length ≤ 8192) := Lib.hid (by
            intro d hd
            rw [HTK.out, List.mem_append, List.mem_singleton] at hd
            rcases hd with hd | rfl
            · exact HSD.out d hd
            · exact HDV.out)
          have HD2 := Lib.hid (dk_act HDK.out (op, K, V))
          have HL2 : Hid ((actK l0 (op, K, V)).1.length ≤ 64 + (k + 1)) := Lib.hid (by have h1 := actK_len l0 (op, K, V); have := HLL.out; omega)
          clear hown2 hgrow2 hat2 hlt2' hrow hkeep hox6 x0 x1
          go_wp2
          go_roundg (gk - 1)
          case measure => omega
          case rel => exact ⟨k + 1, by omega, by go_num, by rw [HT.out]; exact HDW.out, HS2, by rw [HT.out]; exact HD2, by rw [HT.out]; exact HL2⟩
        · have e : ds.take k = ds := List.take_of_length_le (by omega)
          have HWF := Lib.hid HW.out
          rw [e] at HWF HSD
          clear e HW
          obtain ⟨A6, c6, rfl⟩ : ∃ A c, u6 = .slice A (actsK l ds).1.length c := by obtain ⟨A, c, e, _⟩ := HWF.out.now; exact ⟨A, c, e⟩
          have HL1 := Lib.hid HWF.out.le
          have HKN' := Lib.hid (HWF.out.now.kq HL1.out)
          have HKW : Hid (Kq (fun _ => True) wx u7 (actsK l ds).2) := Lib.hid (by
            obtain ⟨ws, h1, h2⟩ := HWF.out.want
            exact Kq.of_row h1 (h2.pall HL1.out) (Le.refl _) (by have := actsK_len l ds ds.length (Nat.le_refl _); rw [List.take_length] at this; omega))
          obtain ⟨n7, A7, c7, rfl⟩ : ∃ n A c, u7 = .slice A n c := by obtain ⟨A, c, e, _⟩ := HKW.out; exact ⟨_, A, c, e⟩
          go_wp2_with fail
          refine (iDo_c (fun _ => True) wx _ _ l ds (HKQ.out.le HL1.out) (HD.out.le HL1.out) ⟨by omega, fun x hx => by have := HSM.out x hx; omega⟩ (by omega) (fun d hd => by have := HSD.out d hd; omega)).mono ?_
          rintro e w5 ⟨v1, v2, rfl, hk1, hk2, hle5⟩
          have HK1 := Lib.hid hk1
          have HK2 := Lib.hid hk2
          have HLE5 := Lib.hid (HL1.out.trans hle5)
          have HKN5 := Lib.hid (HKN'.out.le hle5)
          have HKW5 := Lib.hid (HKW.out.le hle5)
          obtain ⟨m1, B1, k1, rfl⟩ : ∃ n A c, v1 = .slice A n c := by obtain ⟨A, c, e, _⟩ := hk1; exact ⟨_, A, c, e⟩
          obtain ⟨m2, B2, k2, rfl⟩ : ∃ n A c, v2 = .slice A n c := by obtain ⟨A, c, e, _⟩ := hk2; exact ⟨_, A, c, e⟩
          clear hk1 hk2 hle5
          go_wp2_with fail
          refine (sameKVs_b _ (fun _ => True) w5 _ _ (actsK l ds).1 (actsK l ds).1 true (by simp) HK1.out HKN5.out).mono ?_
          rintro e w6 ⟨rfl, m8, rfl⟩
          have hd8 : Le w5 (w5.drewN m8) := (Le.refl w5).drewN m8
          have HK8 := Lib.hid (HK2.out.le hd8)
          have HF8 := Lib.hid (HKW5.out.le hd8)
          have HLE8 := Lib.hid (HLE5.out.trans hd8)
          clear hd8
          generalize w5.drewN m8 = w8 at HK8 HF8 HLE8 ⊢
          go_wp2_with fail
          refine (sameKVs_b _ (fun _ => True) _ _ _ (actsK l ds).2 (actsK l ds).2 true (by simp) HK8.out HF8.out).mono ?_
          rintro e w9 ⟨rfl, m9, rfl⟩
          have HLE12 : Hid (Le w (w8.drewN m9)) := Lib.hid (HLE8.out.drewN m9)
          go_wp2_with fail
          refine (HKN.out _ HLE12).mono ?_
          rintro e w10 ⟨rfl, hle⟩
          have HLE13 := Lib.hid hle
          clear hle
          go_wp2
          go_ret
          exact ⟨rfl, HLE13.out⟩
end Go.Proofs.YtgelnjcjpkklbaaGreatDoor
