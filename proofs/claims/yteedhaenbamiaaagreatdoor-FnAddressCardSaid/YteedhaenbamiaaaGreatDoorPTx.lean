/- Contracts: the laws' and the specification's text of parameters. -/
import Derived.Test.YteedhaenbamiaaaGreatDoorLw
import Derived.Test.YteedhaenbamiaaaGreatDoorSpWc
import Derived.Test.YteedhaenbamiaaaGreatDoorWd
import Derived.Deep.RegionLaw
import Derived.ArgAppend
import Derived.Deep.DeepAppendRoom
set_option linter.unusedVariables false
set_option linter.unusedSimpArgs false
namespace Go.Proofs.YteedhaenbamiaaaGreatDoor
open Go.RowKit

set_option maxRecDepth 100000 in
/-- an append to an own row: the old value still reads its text -/
theorem run_append_keep {w : World} {base : Nat} {v x : Value} {l m : Tx} (hown : OwnB base w v l) (hx : Bv w x m) (hl : l.length + m.length ≤ 140737488355328) (hbase : base ≤ w.heap.size) (ty : TypeId) :
    ∃ v' w', (Builtin.append_ #[22, 22] ty #[v, x]).run Tryz.prog w = .ok v' w' ∧ OwnB base w' v' (l ++ m) ∧ w.grownBy w' v.ownBlock ∧ OwnB base w' v l := by
  obtain ⟨v', w', q, k1, k2⟩ := run_append_bv hown hx hl hbase ty
  refine ⟨v', w', q, k1, k2, ?_⟩
  obtain ⟨i0, hi0, hz0, hz1, hz2⟩ := info_parts u8_info
  rcases hown.2 with ⟨rfl, h5⟩ | ⟨g, cap, cur, rfl, hbg, hg, hnc, hcm, hcs, htk⟩
  · obtain rfl : l = [] := List.eq_nil_of_length_eq_zero h5
    exact OwnB.nil _ _
  · obtain ⟨A, c, rfl, h1, h2, h3, h4⟩ := hx
    cases A with
    | none =>
      have hm : m.length = 0 := by
        rcases Nat.eq_zero_or_pos m.length with h | h
        · exact h
        · obtain ⟨_, _, e, _⟩ := h4 h; cases e
      have q2 : (Builtin.append_ #[22, 22] ty #[.slice (some ⟨g, 0, none⟩) l.length cap, .slice none m.length c]).run Tryz.prog w = .ok (.slice (some ⟨g, 0, none⟩) l.length cap) w := by
        rw [hm]
        simp [Builtin.append_, run_underlying Tryz.underlying22, sizeOf, typeInfo, hi0, Builtin.lenOf, Builtin.firstCells, hnc, storeCells]
      rw [q2] at q
      injection q with _ q
      subst q
      exact hown
    | some ad =>
      have hn : ∀ (j : Nat) (u : Value), (u8s m)[j]? = some u → w.cell? (ad.add j) = some u := fun j u hu => by
        unfold u8s at hu
        rw [List.getElem?_map] at hu
        have hj : j < m.length := by
          rcases Nat.lt_or_ge j m.length with h | h
          · exact h
          · rw [List.getElem?_eq_none h] at hu; cases hu
        rw [List.getElem?_eq_getElem hj, Option.map_some, Option.some.injEq] at hu
        subst hu
        obtain ⟨b, o, e, hc⟩ := h4 (by omega)
        injection e with e
        subst e
        rw [add_adr]
        exact hc j hj
      have h1c : ∀ u ∈ u8s m, u.oneCell' = true := fun u hu => by
        unfold u8s at hu
        obtain ⟨_, _, rfl⟩ := List.mem_map.1 hu
        rfl
      by_cases hroom : l.length + m.length ≤ cap
      · obtain ⟨w2, q2, r1, r2⟩ := run_append_own_spare (P := Tryz.prog) w base 22 ty 5 i0 1 Tryz.underlying22 hi0 hz1 g l.length cap (u8s l) hown ad m.length c (u8s m) (by unfold u8s; simp) hn h1c hroom
        rw [q2] at q
        injection q with _ q
        subst q
        rcases r1.2 with ⟨e, _⟩ | ⟨g', cap', cur', e, b1, b2, b3, b4, b5, b6⟩
        · cases e
        · cases e
          refine ⟨hown.1, .inr ⟨g, cap, cur', rfl, b1, b2, hnc, b4, b5, ?_⟩⟩
          have := congrArg (List.take (l.length * 1)) b6
          rw [List.take_take, Nat.min_eq_left (by omega)] at this
          rw [this]
          have hlen : (u8s l).length = l.length * 1 := hown.1
          rw [← hlen]
          exact List.take_left
      · obtain ⟨v2, w2, q2, r1, r2⟩ := run_append_arg_grows (P := Tryz.prog) w 22 ty 5 i0 (.int .u8 0) 1 1 Tryz.underlying22 hi0 hz0 hz1 hz2 rfl (by decide) ⟨g, 0, none⟩ l.length cap (u8s l) hown.1 (fun j u hu => by
          have hj : j < l.length := by
            rcases Nat.lt_or_ge j (u8s l).length with h | h
            · have := hown.1; omega
            · rw [List.getElem?_eq_none h] at hu; cases hu
          rw [add_adr, Nat.zero_add, World.ownsRow.cellAt hown j (by omega), hu]) ad m.length c (u8s m) (by unfold u8s; simp) hn (by omega) (by unfold maxLen; omega) (by omega)
        rw [q2] at q
        injection q with _ q
        subst q
        exact ⟨hown.1, .inr ⟨g, cap, cur, rfl, hbg, (r2.block g (lt_of_heap hg) (by simp)).trans hg, hnc, hcm, hcs, htk⟩⟩

/-- an append whose run is known, as one step of a region that draws -/
theorem step_append_run {P : Program} {ops : Array Oper} {o : Oper} {a : Act} {w : World} {K : Act → World → Prop} {Q : Exit → Act → World → Prop} {E : Prop}
    (hg : o.guard = none) (s x : Operand) (t : TypeId) (hop : o.op = Op.call { callee := Callee.builtin Builtin.append, args := #[s, x], argTypes := #[t, t] })
    (sv xv : Value) (hs : a.eval s = sv) (hx : a.eval x = xv) (v : Value) (w' : World) (hrun : (Builtin.append_ #[t, t] o.type #[sv, xv]).run P w = .ok v w') (hK : K (a.put o.dst v) w') :
    if Region.wanted o (yielded ops a.tmps) = true then Oper.wp P o a w K Q else E := by
  have hw : Region.wanted o (yielded ops a.tmps) = true := by simp [Region.wanted, hg]
  rw [if_pos hw]
  unfold Oper.wp
  simp [execOp, hop, resolve, invoke, builtin, hs, hx, hrun, Result.andThen]
  exact hK

set_option maxRecDepth 8000 in
set_option maxHeartbeats 4000000 in
theorem pText_c (v : Value) (l : KVs) (sep : UInt8) (w : World) (hv : Kq (fun _ => True) w v l) (hlen : ∀ k ≤ l.length, (ptP l sep k).length ≤ 140737488300000) (hsm : ∀ x ∈ l, x.1.length + x.2.length ≤ 20000) :
    Calls Tryz.prog 62 #[v, .int .u8 sep.toNat] w fun e w' => ∃ v', e = .returned v' ∧ OwnB w.heap.size w' v' (ptP l sep l.length) ∧ Le w w' := by
  have HV := Lib.hid hv
  have HLEN := Lib.hid hlen
  have HSM := Lib.hid hsm
  obtain ⟨A, c, rfl, h1, h2, h3, h5⟩ := hv
  have H5 := Lib.hid h5
  clear h5 hlen hsm
  generalize hsepv : (sep.toNat : Int) = sv
  have HSEP := Lib.hid hsepv
  clear hsepv
  go_enter Tryz.func62, Tryz.ntmps62
  go_wp2
  go_loopg [5, 6] (l.length) (fun n o i wr => ∃ k : Nat, n + k = l.length ∧ i = .int .i64 k ∧ Le w wr ∧ OwnB w.heap.size wr o (ptP l sep k))
  case atStart => exact ⟨0, by omega, rfl, Le.refl w, OwnB.nil _ _⟩
  case round =>
    obtain ⟨k, hn, rfl, hle, hown⟩ := hrel
    have HO := Lib.hid hown
    have HL := Lib.hid hle
    have HN : gk + k ≤ l.length ∧ l.length ≤ gk + k := by omega
    clear hn hle hown
    by_cases hlt : k < l.length
    · obtain ⟨g, o, rfl, _, hc⟩ := H5.out (by omega)
      obtain ⟨x, y, d1, d2, hx, hy⟩ := hc k hlt
      have HX := Lib.hid hx.1
      have HY := Lib.hid hy.1
      have D1 := Lib.hid d1
      have D2 := Lib.hid d2
      have HM := Lib.hid (HSM.out l[k] (List.getElem_mem hlt))
      clear hc hx hy d1 d2
      go_upto_if 14 with fail
      generalize hbk : decide (0 < k) = bk
      have HBK := Lib.hid hbk
      clear hbk
      go_cut [5] from 15 to 18 (fun s5 wc => Le w wc ∧ OwnB w.heap.size wc s5 (ptP l sep k ++ (if 0 < k then [sep] else [])))
      case first =>
        cases bk
        case true =>
          have HK0 : Hid (0 < k) := Lib.hid (of_decide_eq_true HBK.out)
          have hb : Bv (wr.alloc (Obj.cells #[.int .u8 sv] 5)) (.slice (some ⟨wr.heap.size, 0, none⟩) 1 1) [sep] := by rw [← HSEP.out]; exact bv_lit wr [sep] (by simp) (0, 0)
          have HB := Lib.hid hb
          have hle1 : Le wr (wr.alloc (Obj.cells #[.int .u8 sv] 5)) := (Le.refl wr).alloc _
          have HO1 := Lib.hid (own_le HO.out hle1)
          have HL1 := Lib.hid (HL.out.trans hle1)
          have HK := Lib.hid (HLEN.out k (by omega))
          clear hb hle1
          go_wp2_with (at_builtin; refine wpList_append_bv rfl (.tmp 15) (.tmp 17) rfl (base := w.heap.size) rfl rfl HO1.out HB.out (by have := HK.out; simp only [List.length_cons, List.length_nil]; omega) HL1.out.size ?_)
          intro v' w' hown' hgrow'
          have HLE' : Hid (Le w w') := Lib.hid (Below.grown' HL1.out hgrow' (Nat.le_refl _) (fun g hg => (own_row' HO1.out g hg).1))
          have HO' := Lib.hid hown'
          clear hown' hgrow'
          go_wp2
          go_meet
          case rel => exact ⟨HLE'.out, by rw [if_pos HK0.out]; exact HO'.out⟩
        case false =>
          have HK0 : Hid (¬ 0 < k) := Lib.hid (of_decide_eq_false HBK.out)
          go_wp2
          go_meet
          case rel => exact ⟨HL.out, by rw [if_neg HK0.out, List.append_nil]; exact HO.out⟩
      obtain ⟨hle2, hown2⟩ := hcut
      have hql : (ptP l sep k ++ (if 0 < k then [sep] else [])).length ≤ 140737488300001 := by
        have := HLEN.out k (by omega)
        rw [List.length_append]
        split <;> simp only [List.length_cons, List.length_nil] <;> omega
      have hqs := ptP_succ (sep := sep) hlt
      rw [← List.append_assoc] at hqs
      generalize ptP l sep k ++ (if 0 < k then [sep] else []) = q at hown2 hql hqs
      have HQS := Lib.hid hqs
      have HQL := Lib.hid hql
      clear hql hqs
      have HL2 := Lib.hid hle2
      have HO2 := Lib.hid hown2
      have d1 := hle2.cell D1.out
      have HX2 := Lib.hid (HX.out.le hle2)
      clear hle2 hown2
      obtain ⟨Ax, cx, ex, _⟩ := bv_slice HX.out
      obtain ⟨Ay, cy, ey, _⟩ := bv_slice HY.out
      subst ex
      subst ey
      go_wp2_with (at_builtin; refine wpList_append_bv rfl (.tmp 19) (.tmp 24) rfl (base := w.heap.size) rfl rfl HO2.out HX2.out (by have := HQL.out; have := HM.out; omega) HL2.out.size ?_)
      intro v3 w3 hown3 hgrow3
      have HL3 : Hid (Le w w3) := Lib.hid (Below.grown' HL2.out hgrow3 (Nat.le_refl _) (fun g hg => (own_row' HO2.out g hg).1))
      have HO3 := Lib.hid hown3
      have d2 := HL3.out.cell D2.out
      have HY3 := Lib.hid (HY.out.le HL3.out)
      clear hown3 hgrow3 d1
      have HBV := Lib.hid (⟨HY3.out⟩ : Nonempty _)
      by_cases hv0 : l[k].2 = []
      · have HS : Hid (OwnB w.heap.size w3 v3 (ptP l sep (k + 1))) := Lib.hid (by
          have e : pceT l[k] = l[k].1 := by unfold pceT; rw [if_pos hv0, List.append_nil]
          rw [HQS.out, e]; exact HO3.out)
        have hz : l[k].2.length = 0 := by rw [hv0]; rfl
        have HN2 := Lib.hid HN
        generalize l[k].2.length = m at d2 hz
        subst hz
        clear hv0 HY3 HBV
        go_wp2
        go_roundg (gk - 1)
        case measure => omega
        case rel => exact ⟨k + 1, by omega, by go_num, HL3.out, HS.out⟩
      · have hv1 : decide (0 < l[k].2.length) = true := decide_eq_true (List.length_pos_iff.2 hv0)
        go_upto_region 9 with fail
        have hle0 : Le w3 (w3.alloc (Obj.cells #[.int .u8 61] 5)).drew := ((Le.refl w3).alloc _).drew
        have hb0 : Bv (w3.alloc (Obj.cells #[.int .u8 61] 5)).drew (.slice (some ⟨w3.heap.size, 0, none⟩) 1 1) [61] := (bv_lit w3 [61] (by simp) (0, 0)).le (Le.refl _).drew
        obtain ⟨v5, w5, q5, hown5, hgrow5, hkeep5⟩ := run_append_keep (own_le HO3.out hle0) hb0 (by have := HQL.out; have := HM.out; simp only [List.length_append, List.length_cons, List.length_nil]; omega) (HL3.out.trans hle0).size 22
        have HL5 : Hid (Le w w5) := Lib.hid (Below.grown' (HL3.out.trans hle0) hgrow5 (Nat.le_refl _) (fun g hg => (own_row' (own_le HO3.out hle0) g hg).1))
        have HY5 := Lib.hid (HY.out.le HL5.out)
        obtain ⟨v6, w6, q6, hown6, hgrow6, hkeep6⟩ := run_append_keep hown5 HY5.out (by have := HQL.out; have := HM.out; simp only [List.length_append, List.length_cons, List.length_nil]; omega) HL5.out.size 22
        have HL6 : Hid (Le w w6) := Lib.hid (Below.grown' HL5.out hgrow6 (Nat.le_refl _) (fun g hg => (own_row' hown5 g hg).1))
        have HS6 : Hid (OwnB w.heap.size w6 v6 (ptP l sep (k + 1))) := Lib.hid (by
          have e : pceT l[k] = l[k].1 ++ 61 :: l[k].2 := by unfold pceT; rw [if_neg hv0]
          rw [HQS.out, e]
          have e2 : q ++ l[k].1 ++ [61] ++ l[k].2 = q ++ (l[k].1 ++ 61 :: l[k].2) := by simp
          exact e2 ▸ hown6)
        have dA : (w3.alloc (Obj.cells #[.int .u8 61] 5)).drew.cell? ⟨g, o + k * 2 + 1, none⟩ = some (.slice Ay l[k].2.length cy) := hle0.cell d2
        have dB : w5.cell? ⟨g, o + k * 2 + 1, none⟩ = some (.slice Ay l[k].2.length cy) := HL5.out.cell D2.out
        have Q5 := Lib.hid q5
        have Q6 := Lib.hid q6
        clear q5 q6 hown5 hgrow5 hkeep5 hown6 hgrow6 hkeep6 hb0 hle0 hv0 HY3 HBV
        go_region_law (first | (refine step_append_run rfl (.tmp 33) (.tmp 34) _ rfl v3 (.slice (some ⟨w3.heap.size, 0, none⟩) 1 1) (by simp [Act.eval, Act.put]) (by simp [Act.eval, Act.put]) v5 w5 Q5.out ?_) | (refine step_append_run rfl (.tmp 35) (.tmp 40) _ rfl v5 (.slice Ay l[k].2.length cy) (by simp [Act.eval, Act.put]) (by simp [Act.eval, Act.put]) v6 w6 Q6.out ?_))
        all_goals
          go_wp2
          go_roundg (gk - 1)
          case measure => omega
          case rel => exact ⟨k + 1, by omega, by go_num, HL6.out, HS6.out⟩
    · have e : k = l.length := by omega
      have HX : Hid (OwnB w.heap.size wr u5 (ptP l sep l.length)) := Lib.hid (e ▸ HO.out)
      clear e
      go_wp2
      go_ret
      exact ⟨_, rfl, HX.out, HL.out⟩

set_option maxRecDepth 8000 in
set_option maxHeartbeats 4000000 in
theorem sText_c (v : Value) (l : KVs) (sep : UInt8) (w : World) (hv : Kq (fun _ => True) w v l) (hlen : ∀ k ≤ l.length, (ptP l sep k).length ≤ 140737488300000) (hsm : ∀ x ∈ l, x.1.length + x.2.length ≤ 20000) :
    Calls Tryz.prog 59 #[v, .int .u8 sep.toNat] w fun e w' => ∃ v', e = .returned v' ∧ OwnB w.heap.size w' v' (ptP l sep l.length) ∧ Le w w' := by
  have HV := Lib.hid hv
  have HLEN := Lib.hid hlen
  have HSM := Lib.hid hsm
  obtain ⟨A, c, rfl, h1, h2, h3, h5⟩ := hv
  have H5 := Lib.hid h5
  clear h5 hlen hsm
  generalize hsepv : (sep.toNat : Int) = sv
  have HSEP := Lib.hid hsepv
  clear hsepv
  go_enter Tryz.func59, Tryz.ntmps59
  go_wp2
  go_loopg [5, 6] (l.length) (fun n o i wr => ∃ k : Nat, n + k = l.length ∧ i = .int .i64 k ∧ Le w wr ∧ OwnB w.heap.size wr o (ptP l sep k))
  case atStart => exact ⟨0, by omega, rfl, Le.refl w, OwnB.nil _ _⟩
  case round =>
    obtain ⟨k, hn, rfl, hle, hown⟩ := hrel
    have HO := Lib.hid hown
    have HL := Lib.hid hle
    have HN : gk + k ≤ l.length ∧ l.length ≤ gk + k := by omega
    clear hn hle hown
    by_cases hlt : k < l.length
    · obtain ⟨g, o, rfl, _, hc⟩ := H5.out (by omega)
      obtain ⟨x, y, d1, d2, hx, hy⟩ := hc k hlt
      have HX := Lib.hid hx.1
      have HY := Lib.hid hy.1
      have D1 := Lib.hid d1
      have D2 := Lib.hid d2
      have HM := Lib.hid (HSM.out l[k] (List.getElem_mem hlt))
      clear hc hx hy d1 d2
      go_upto_if 14 with fail
      generalize hbk : decide (0 < k) = bk
      have HBK := Lib.hid hbk
      clear hbk
      go_cut [5] from 15 to 18 (fun s5 wc => Le w wc ∧ OwnB w.heap.size wc s5 (ptP l sep k ++ (if 0 < k then [sep] else [])))
      case first =>
        cases bk
        case true =>
          have HK0 : Hid (0 < k) := Lib.hid (of_decide_eq_true HBK.out)
          have hb : Bv (wr.alloc (Obj.cells #[.int .u8 sv] 5)) (.slice (some ⟨wr.heap.size, 0, none⟩) 1 1) [sep] := by rw [← HSEP.out]; exact bv_lit wr [sep] (by simp) (0, 0)
          have HB := Lib.hid hb
          have hle1 : Le wr (wr.alloc (Obj.cells #[.int .u8 sv] 5)) := (Le.refl wr).alloc _
          have HO1 := Lib.hid (own_le HO.out hle1)
          have HL1 := Lib.hid (HL.out.trans hle1)
          have HK := Lib.hid (HLEN.out k (by omega))
          clear hb hle1
          go_wp2_with (at_builtin; refine wpList_append_bv rfl (.tmp 15) (.tmp 17) rfl (base := w.heap.size) rfl rfl HO1.out HB.out (by have := HK.out; simp only [List.length_cons, List.length_nil]; omega) HL1.out.size ?_)
          intro v' w' hown' hgrow'
          have HLE' : Hid (Le w w') := Lib.hid (Below.grown' HL1.out hgrow' (Nat.le_refl _) (fun g hg => (own_row' HO1.out g hg).1))
          have HO' := Lib.hid hown'
          clear hown' hgrow'
          go_wp2
          go_meet
          case rel => exact ⟨HLE'.out, by rw [if_pos HK0.out]; exact HO'.out⟩
        case false =>
          have HK0 : Hid (¬ 0 < k) := Lib.hid (of_decide_eq_false HBK.out)
          go_wp2
          go_meet
          case rel => exact ⟨HL.out, by rw [if_neg HK0.out, List.append_nil]; exact HO.out⟩
      obtain ⟨hle2, hown2⟩ := hcut
      have hql : (ptP l sep k ++ (if 0 < k then [sep] else [])).length ≤ 140737488300001 := by
        have := HLEN.out k (by omega)
        rw [List.length_append]
        split <;> simp only [List.length_cons, List.length_nil] <;> omega
      have hqs := ptP_succ (sep := sep) hlt
      rw [← List.append_assoc] at hqs
      generalize ptP l sep k ++ (if 0 < k then [sep] else []) = q at hown2 hql hqs
      have HQS := Lib.hid hqs
      have HQL := Lib.hid hql
      clear hql hqs
      have HL2 := Lib.hid hle2
      have HO2 := Lib.hid hown2
      have d1 := hle2.cell D1.out
      have HX2 := Lib.hid (HX.out.le hle2)
      clear hle2 hown2
      obtain ⟨Ax, cx, ex, _⟩ := bv_slice HX.out
      obtain ⟨Ay, cy, ey, _⟩ := bv_slice HY.out
      subst ex
      subst ey
      go_wp2_with (at_builtin; refine wpList_append_bv rfl (.tmp 19) (.tmp 24) rfl (base := w.heap.size) rfl rfl HO2.out HX2.out (by have := HQL.out; have := HM.out; omega) HL2.out.size ?_)
      intro v3 w3 hown3 hgrow3
      have HL3 : Hid (Le w w3) := Lib.hid (Below.grown' HL2.out hgrow3 (Nat.le_refl _) (fun g hg => (own_row' HO2.out g hg).1))
      have HO3 := Lib.hid hown3
      have d2 := HL3.out.cell D2.out
      have HY3 := Lib.hid (HY.out.le HL3.out)
      clear hown3 hgrow3 d1
      have HBV := Lib.hid (⟨HY3.out⟩ : Nonempty _)
      by_cases hv0 : l[k].2 = []
      · have HS : Hid (OwnB w.heap.size w3 v3 (ptP l sep (k + 1))) := Lib.hid (by
          have e : pceT l[k] = l[k].1 := by unfold pceT; rw [if_pos hv0, List.append_nil]
          rw [HQS.out, e]; exact HO3.out)
        have hz : l[k].2.length = 0 := by rw [hv0]; rfl
        have HN2 := Lib.hid HN
        generalize l[k].2.length = m at d2 hz
        subst hz
        clear hv0 HY3 HBV
        go_wp2
        go_roundg (gk - 1)
        case measure => omega
        case rel => exact ⟨k + 1, by omega, by go_num, HL3.out, HS.out⟩
      · have hv1 : decide (0 < l[k].2.length) = true := decide_eq_true (List.length_pos_iff.2 hv0)
        go_upto_region 9 with fail
        have hle0 : Le w3 (w3.alloc (Obj.cells #[.int .u8 61] 5)).drew := ((Le.refl w3).alloc _).drew
        have hb0 : Bv (w3.alloc (Obj.cells #[.int .u8 61] 5)).drew (.slice (some ⟨w3.heap.size, 0, none⟩) 1 1) [61] := (bv_lit w3 [61] (by simp) (0, 0)).le (Le.refl _).drew
        obtain ⟨v5, w5, q5, hown5, hgrow5, hkeep5⟩ := run_append_keep (own_le HO3.out hle0) hb0 (by have := HQL.out; have := HM.out; simp only [List.length_append, List.length_cons, List.length_nil]; omega) (HL3.out.trans hle0).size 22
        have HL5 : Hid (Le w w5) := Lib.hid (Below.grown' (HL3.out.trans hle0) hgrow5 (Nat.le_refl _) (fun g hg => (own_row' (own_le HO3.out hle0) g hg).1))
        have HY5 := Lib.hid (HY.out.le HL5.out)
        obtain ⟨v6, w6, q6, hown6, hgrow6, hkeep6⟩ := run_append_keep hown5 HY5.out (by have := HQL.out; have := HM.out; simp only [List.length_append, List.length_cons, List.length_nil]; omega) HL5.out.size 22
        have HL6 : Hid (Le w w6) := Lib.hid (Below.grown' HL5.out hgrow6 (Nat.le_refl _) (fun g hg => (own_row' hown5 g hg).1))
        have HS6 : Hid (OwnB w.heap.size w6 v6 (ptP l sep (k + 1))) := Lib.hid (by
          have e : pceT l[k] = l[k].1 ++ 61 :: l[k].2 := by unfold pceT; rw [if_neg hv0]
          rw [HQS.out, e]
          have e2 : q ++ l[k].1 ++ [61] ++ l[k].2 = q ++ (l[k].1 ++ 61 :: l[k].2) := by simp
          exact e2 ▸ hown6)
        have dA : (w3.alloc (Obj.cells #[.int .u8 61] 5)).drew.cell? ⟨g, o + k * 2 + 1, none⟩ = some (.slice Ay l[k].2.length cy) := hle0.cell d2
        have dB : w5.cell? ⟨g, o + k * 2 + 1, none⟩ = some (.slice Ay l[k].2.length cy) := HL5.out.cell D2.out
        have Q5 := Lib.hid q5
        have Q6 := Lib.hid q6
        clear q5 q6 hown5 hgrow5 hkeep5 hown6 hgrow6 hkeep6 hb0 hle0 hv0 HY3 HBV
        go_region_law (first | (refine step_append_run rfl (.tmp 33) (.tmp 34) _ rfl v3 (.slice (some ⟨w3.heap.size, 0, none⟩) 1 1) (by simp [Act.eval, Act.put]) (by simp [Act.eval, Act.put]) v5 w5 Q5.out ?_) | (refine step_append_run rfl (.tmp 35) (.tmp 40) _ rfl v5 (.slice Ay l[k].2.length cy) (by simp [Act.eval, Act.put]) (by simp [Act.eval, Act.put]) v6 w6 Q6.out ?_))
        all_goals
          go_wp2
          go_roundg (gk - 1)
          case measure => omega
          case rel => exact ⟨k + 1, by omega, by go_num, HL6.out, HS6.out⟩
    · have e : k = l.length := by omega
      have HX : Hid (OwnB w.heap.size wr u5 (ptP l sep l.length)) := Lib.hid (e ▸ HO.out)
      clear e
      go_wp2
      go_ret
      exact ⟨_, rfl, HX.out, HL.out⟩
end Go.Proofs.YteedhaenbamiaaaGreatDoor
