/- Contracts: the specification's at, ParamsEqual (printed by gen_seq.py). -/
import Derived.Test.YtgelnjcjpkklbaaGreatDoorEqs
import Derived.Test.YtgelnjcjpkklbaaGreatDoorSame
import Derived.Test.YtgelnjcjpkklbaaGreatDoorSpWc
set_option linter.unusedVariables false
set_option linter.unusedSimpArgs false
namespace Go.Proofs.YtgelnjcjpkklbaaGreatDoor
open Go.RowKit

theorem fnd_kInt {l : KVs} {k : Tx} {i : Nat} (h : kInt l k = i) (hi : i < l.length) : fnd l k = some l[i].2 := by
  have h1 : kIdx l k < l.length := by
    rcases Nat.lt_or_ge (kIdx l k) l.length with h1 | h1
    · exact h1
    · unfold kInt at h; rw [if_neg (by omega)] at h; omega
  have h2 : kIdx l k = i := by unfold kInt at h; rw [if_pos h1] at h; omega
  have h3 : l[i].1 = k := by
    have := List.findIdx_getElem (xs := l) (p := fun (x : Tx × Tx) => decide (x.1 = k)) (w := h1)
    simp only [decide_eq_true_eq] at this
    subst h2
    exact this
  refine fnd_at hi h3 (List.all_eq_true.2 fun x hx => ?_)
  obtain ⟨j, hj, e⟩ := List.mem_take_iff_getElem.1 hx
  have := List.not_of_lt_findIdx (xs := l) (p := fun (x : Tx × Tx) => decide (x.1 = k)) (i := j) (by unfold kIdx at h2; omega)
  rw [← e]
  simpa using this
set_option maxRecDepth 4000 in
set_option maxHeartbeats 2000000 in
theorem at_c (φ : Nat → Prop) (w : World) (v kv : Value) (l : KVs) (key : Tx) (hv : Kq φ w v l) (hk : Bv w kv key) :
    Calls Tryz.prog 71 #[v, kv] w fun e w' => e = .returned (.int .i64 (kInt l key)) ∧ w = w' := by
  have HV := Lib.hid hv
  have HK := Lib.hid hk
  obtain ⟨A, c, rfl, h1, h2, h3, _⟩ := hv
  obtain ⟨Ak, ck, rfl, _⟩ := bv_slice hk
  clear hk
  go_enter Tryz.func71, Tryz.ntmps71
  go_wp2
  go_loop [5] (fun i => ∃ k : Nat, k ≤ l.length ∧ i = .int .i64 k ∧ Hid ((l.take k).all (fun x => !decide (x.1 = key)) = true)) (fun i => l.length - (intOf i).toNat)
  case atStart => exact ⟨0, Nat.zero_le _, rfl, Lib.hid rfl⟩
  case round =>
    obtain ⟨k, hkl, rfl, HQ⟩ := hrel
    by_cases hlt : k < l.length
    · obtain ⟨g, o, rfl, x, x2, d1, d2, X, X2⟩ := HV.out.at_ hlt
      clear d2
      obtain ⟨Ax, cx, rfl, _⟩ := bv_slice X.out
      by_cases hq : l[k].1 = key
      · have HR := Lib.hid (kIdx_at hlt hq HQ.out)
        have HD := Lib.hid (decide_eq_true hq)
        clear hq
        go_wp2_with fail
        refine (isSame_c _ _ _ _ w X.out HK.out).mono ?_
        rw [HD.out]
        rintro e w' ⟨rfl, rfl⟩
        go_wp2
        go_ret
        exact ⟨by rw [HR.out]; rfl, rfl⟩
      · have HF : Hid ((l.take (k + 1)).all (fun x => !decide (x.1 = key)) = true) := Lib.hid (by
          rw [List.take_succ_eq_append_getElem hlt]; simp only [List.all_append, HQ.out, List.all_cons, List.all_nil]; simpa using hq)
        have HD := Lib.hid (decide_eq_false hq)
        clear hq
        go_wp2_with fail
        refine (isSame_c _ _ _ _ w X.out HK.out).mono ?_
        rw [HD.out]
        rintro e w' ⟨rfl, rfl⟩
        go_wp2
        go_round
        case rel => exact ⟨k + 1, by omega, by go_num, HF⟩
        case measure => simp [intOf]; omega
    · have HR := Lib.hid (kIdx_none (k := key) (l := l) (by have h1 := HQ.out; rw [List.take_of_length_le (by omega)] at h1; exact h1))
      go_wp2
      go_ret
      exact ⟨by rw [HR.out]; rfl, rfl⟩
theorem dk_of_ap {l : KVs} (h : apB l = true) : DK l := by
  unfold apB at h
  exact (of_decide_eq_true h).imp fun hne e => hne (by rw [e])
def peS (sv1 iv1 p1 q1 x sv2 iv2 p2 q2 y : Value) : Nat → Value → World → Prop
  | 1, v, _ => v = sv1
  | 8, v, _ => v = iv1
  | 0, v, _ => v = sv2
  | 6, v, _ => v = iv2
  | 43, v, _ => v = sv1
  | 44, v, _ => v = iv1
  | 45, v, _ => v = p1
  | 46, v, _ => v = q1
  | 47, v, _ => v = x
  | 49, v, _ => v = sv2
  | 50, v, _ => v = iv2
  | 51, v, _ => v = p2
  | 52, v, _ => v = q2
  | 53, v, _ => v = y
  | 48, v, w => ∃ l, Bv w v l
  | 54, v, w => ∃ l, Bv w v l
  | 55, v, _ => ∃ r, v = .bool r
  | _, _, _ => True
theorem peS_le (sv1 iv1 p1 q1 x sv2 iv2 p2 q2 y : Value) (t : Nat) (v : Value) (w w' : World) (h : Le w w') (hs : peS sv1 iv1 p1 q1 x sv2 iv2 p2 q2 y t v w) : peS sv1 iv1 p1 q1 x sv2 iv2 p2 q2 y t v w' := by
  unfold peS at hs ⊢
  split at hs <;> first | exact hs | (obtain ⟨l, hl⟩ := hs; exact ⟨l, hl.le h⟩)

def SEqPost (a b : KVs) (w : World) (e : Ending) (w' : World) : Prop := Le w w' ∧ ((∃ r, e = .returned (.tuple #[.bool r, .int .i64 0]) ∧ DK a ∧ DK b ∧ EqR a b r) ∨ ∃ r, e = .returned (.tuple #[.bool r, .int .i64 (-2)]))
set_option maxRecDepth 100000 in
set_option maxHeartbeats 1000000 in
theorem sPEq_c (φ ψ : Nat → Prop) (w : World) (va vb : Value) (la lb : KVs) (ha : Kq φ w va la) (hb : Kq ψ w vb lb) :
    Calls Tryz.prog 33 #[va, vb] w (SEqPost la lb w) := by
  have HA := Lib.hid ha
  have HB := Lib.hid hb
  obtain ⟨Aa, ca, rfl, _, _, la3, _⟩ := ha
  obtain ⟨Ab, cb, rfl, _, _, lb3, _⟩ := hb
  go_enter Tryz.func33, Tryz.ntmps33
  go_wp2_with fail
  obtain ⟨r1, hr1⟩ : ∃ r, apB la = r := ⟨_, rfl⟩
  refine (isApart_c φ _ la w HA.out).mono ?_
  rw [hr1]
  rintro e w1 ⟨rfl, hle1⟩
  have HL1 := Lib.hid hle1
  have HR1 := Lib.hid hr1
  clear hle1 hr1
  cases r1
  case false =>
    go_wp2
    go_ret2
    exact ⟨HL1.out, .inr ⟨_, rfl⟩⟩
  obtain ⟨r2, hr2⟩ : ∃ r, apB lb = r := ⟨_, rfl⟩
  go_wp2_with fail
  refine (isApart_c ψ _ lb w1 (HB.out.le HL1.out)).mono ?_
  rw [hr2]
  rintro e w2 ⟨rfl, hle2⟩
  have HL2 := Lib.hid (HL1.out.trans hle2)
  have HR2 := Lib.hid hr2
  clear hle2 hr2
  cases r2
  case false =>
    go_wp2
    go_ret2
    exact ⟨HL2.out, .inr ⟨_, rfl⟩⟩
  have HDA := Lib.hid (dk_of_ap HR1.out)
  have HDB := Lib.hid (dk_of_ap HR2.out)
  by_cases hl : la.length = lb.length
  case neg =>
    have hl' : ((la.length : Int) != (lb.length : Int)) = true := bne_iff_ne.2 (by omega)
    have HX : Hid (EqR la lb false) := Lib.hid ⟨(fun h => by cases h), fun h => absurd h.1 hl⟩
    clear hl
    go_wp2
    go_ret2
    exact ⟨HL2.out, .inl ⟨_, rfl, HDA.out, HDB.out, HX.out⟩⟩
  have hl' : ((la.length : Int) != (lb.length : Int)) = false := by rw [hl]; simp
  have HLE := Lib.hid hl
  clear hl
  go_wp2
  go_loopg [6, 7] (la.length) (fun n i _ wr => ∃ k : Nat, n + k = la.length ∧ i = .int .i64 k ∧ Le w wr ∧ Hid (∀ x ∈ la.take k, fnd lb x.1 = some x.2))
  case atStart => exact ⟨0, by omega, rfl, HL2.out, Lib.hid (by simp)⟩
  case round =>
    obtain ⟨i, hn, rfl, hle, HQ⟩ := hrel
    have HL3 := Lib.hid hle
    have HN : gk + i ≤ la.length ∧ la.length ≤ gk + i := by omega
    clear hn hle
    by_cases hlt : i < la.length
    · obtain ⟨ga, oa, rfl, x1, x2, d1, d2, X1, X2⟩ := HA.out.at_ hlt
      have D1 := Lib.hid d1
      have D2 := Lib.hid d2
      have c1 := HL3.out.cell d1
      obtain ⟨Ax, cx, rfl, _⟩ := bv_slice X1.out
      clear d1 d2
      go_wp2_with fail
      refine (at_c ψ wr _ _ lb la[i].1 (HB.out.le HL3.out) (X1.out.le HL3.out)).mono ?_
      rintro e w3 ⟨rfl, rfl⟩
      rcases kInt_range lb la[i].1 with ⟨j, hj, hjl, hjk⟩ | hno
      · rw [hj]
        have HF := Lib.hid (fnd_kInt hj hjl)
        clear hj hjk
        obtain ⟨gb, ob, rfl, y1, y2, e1, e2, Y1, Y2⟩ := HB.out.at_ hjl
        have c2 := HL3.out.cell D2.out
        have c3 := HL3.out.cell e2
        have hj0 : decide ((j : Int) < 0) = false := decide_eq_false (by omega)
        have Z2 := Lib.hid (X2.out.le HL3.out)
        have W2 := Lib.hid (Y2.out.le HL3.out)
        clear e1 e2 c1
        by_cases hv : la[i].2 = lb[j].2
        · have HD := Lib.hid (decide_eq_true hv)
          have HS : Hid (∀ x ∈ la.take (i + 1), fnd lb x.1 = some x.2) := Lib.hid (by
            intro x hx
            rw [List.take_succ_eq_append_getElem hlt, List.mem_append, List.mem_singleton] at hx
            rcases hx with hx | rfl
            · exact HQ.out x hx
            · rw [HF.out, hv])
          clear hv
          go_wp2
          go_quiet ((go_at_call 72; exact Calls.quiet_of (isSame_b _ _ _ _ _ _ HD.out (Z2.out.dn _) (W2.out.dn _))))
          go_wp2
          go_roundg (gk - 1)
          case measure => omega
          case rel => exact ⟨i + 1, by omega, by go_num, HL3.out.drewN _, HS⟩
        · have HD := Lib.hid (decide_eq_false hv)
          have HX : Hid (EqR la lb false) := Lib.hid ⟨(fun h => by cases h), fun h => by
            have h1 := h.2 la[i].1 la[i].2 (fnd_of_mem HDA.out (List.getElem_mem hlt))
            rw [HF.out] at h1
            injection h1 with h1
            exact absurd h1.symm hv⟩
          clear hv
          go_wp2
          go_quiet ((go_at_call 72; exact Calls.quiet_of (isSame_b _ _ _ _ _ _ HD.out (Z2.out.dn _) (W2.out.dn _))))
          go_wp2
          go_ret2
          exact ⟨HL3.out.drewN _, .inl ⟨_, rfl, HDA.out, HDB.out, HX.out⟩⟩
      · rw [hno]
        have HX : Hid (EqR la lb false) := Lib.hid ⟨(fun h => by cases h), fun h => by
          have h1 := h.2 la[i].1 la[i].2 (fnd_of_mem HDA.out (List.getElem_mem hlt))
          have h2 := kInt_fnd lb la[i].1
          rw [hno, h1] at h2
          simp at h2⟩
        clear hno c1
        go_wp2
        rename World => wr
        obtain ⟨wo, hwo⟩ : ∃ wo : World, wo = wr := ⟨_, rfl⟩
        clear hwo
        go_loopg [8] (lb.length) (fun n k wx => ∃ j : Nat, n + j = lb.length ∧ k = .int .i64 j ∧ Le w wx)
        case atStart => exact ⟨0, by omega, rfl, HL3.out⟩
        case round =>
          obtain ⟨m, hn, rfl, hle⟩ := hrel
          have HG0 := Lib.hid hle
          have HM : gk + m ≤ lb.length ∧ lb.length ≤ gk + m := by omega
          clear hn hle
          by_cases hml : m < lb.length
          · obtain ⟨gb, ob, rfl, y1, y2, e1, e2, Y1, Y2⟩ := HB.out.at_ hml
            have E1 := Lib.hid e1
            clear e1 e2
            go_wp2
            have hm : (Tryz.prog).follows .mixedOrders = true := by kernel_rfl
            have hGl : ∀ w1 w2, Le w1 w2 → Le w w1 → Le w w2 := fun w1 w2 k h => Le.trans h k
            refine wp_region_grow_put (peS (Value.slice (some ⟨gb, ob, none⟩) lb.length cb) (.int .i64 m) (.pointer (some ⟨gb, ob + m * 2, none⟩)) (.pointer (some ⟨gb, ob + m * 2, none⟩)) y1 (Value.slice (some ⟨ga, oa, none⟩) la.length ca) (.int .i64 i) (.pointer (some ⟨ga, oa + i * 2, none⟩)) (.pointer (some ⟨ga, oa + i * 2, none⟩)) (Value.slice Ax la[i].1.length cx)) (fun _ _ => True) (Le w) 68 [43, 44, 45, 46, 47, 48, 49, 50, 51, 52, 53, 54, 55] hm (by kernel_rfl) rfl rfl ?hG ?hold ?hs ?hend
            case hG => exact HG0.out.drew
            case hold =>
              intro t ht
              simp only [List.mem_cons, List.mem_nil_iff, or_false, not_or] at ht
              unfold peS
              split <;> first | rfl | trivial | (exfalso; simp at ht)
            case hs =>
              refine ⟨?_, ?_, ?_, ?_, ?_, ?_, ?_, ?_, ?_, ?_, ?_, ?_, ?_, trivial⟩
              · refine GrowStep.det ?_
                intro a W hg hop
                have h0 : a.eval (.tmp 1) = (Value.slice (some ⟨gb, ob, none⟩) lb.length cb) := (hop 1 (by simp [Op.operands, Call.operands]))
                have h0' : a.tmps[1]?.getD undef = (Value.slice (some ⟨gb, ob, none⟩) lb.length cb) := by simpa [Act.eval] using h0
                refine ⟨(Value.slice (some ⟨gb, ob, none⟩) lb.length cb), ?_, rfl⟩
                simp only [execOp, h0]
                go_simp
              · refine GrowStep.det ?_
                intro a W hg hop
                have h0 : a.eval (.tmp 8) = (.int .i64 m) := (hop 8 (by simp [Op.operands, Call.operands]))
                have h0' : a.tmps[8]?.getD undef = (.int .i64 m) := by simpa [Act.eval] using h0
                refine ⟨(.int .i64 m), ?_, rfl⟩
                simp only [execOp, h0]
                go_simp
              · refine GrowStep.det ?_
                intro a W hg hop
                have h0 : a.eval (.tmp 43) = (Value.slice (some ⟨gb, ob, none⟩) lb.length cb) := (hop 43 (by simp [Op.operands, Call.operands]))
                have h0' : a.tmps[43]?.getD undef = (Value.slice (some ⟨gb, ob, none⟩) lb.length cb) := by simpa [Act.eval] using h0
                have h1 : a.eval (.tmp 44) = (.int .i64 m) := (hop 44 (by simp [Op.operands, Call.operands]))
                have h1' : a.tmps[44]?.getD undef = (.int .i64 m) := by simpa [Act.eval] using h1
                refine ⟨(.pointer (some ⟨gb, ob + m * 2, none⟩)), ?_, rfl⟩
                simp only [execOp, h0, h1]
                go_simp
              · refine GrowStep.det ?_
                intro a W hg hop
                have h0 : a.eval (.tmp 45) = (.pointer (some ⟨gb, ob + m * 2, none⟩)) := (hop 45 (by simp [Op.operands, Call.operands]))
                have h0' : a.tmps[45]?.getD undef = (.pointer (some ⟨gb, ob + m * 2, none⟩)) := by simpa [Act.eval] using h0
                refine ⟨(.pointer (some ⟨gb, ob + m * 2, none⟩)), ?_, rfl⟩
                simp only [execOp, h0]
                go_simp
              · refine GrowStep.det ?_
                intro a W hg hop
                have h0 : a.eval (.tmp 46) = (.pointer (some ⟨gb, ob + m * 2, none⟩)) := (hop 46 (by simp [Op.operands, Call.operands]))
                have h0' : a.tmps[46]?.getD undef = (.pointer (some ⟨gb, ob + m * 2, none⟩)) := by simpa [Act.eval] using h0
                have c1 := hg.cell E1.out
                refine ⟨y1, ?_, rfl⟩
                simp only [execOp, h0]
                go_simp
              · refine GrowStep.call ?_ ?_ ?_ ?_
                · exact fun t u w1 w2 k h => peS_le _ _ _ _ _ _ _ _ _ _ t u w1 w2 k h
                · exact fun _ _ _ _ h => h
                · exact hGl
                intro a W hg hop
                have h0 : a.eval (.tmp 47) = y1 := (hop 47 (by simp [Op.operands, Call.operands]))
                have h0' : a.tmps[47]?.getD undef = y1 := by simpa [Act.eval] using h0
                refine ⟨73, #[y1], ?_, (lowered_c y1 _ W (Y1.out.le hg)).mono ?_⟩
                · simp only [execOp, h0]
                  go_simp
                · rintro e w' ⟨v', rfl, hk, hle⟩; exact ⟨v', rfl, hle, _, hk.bv (by rw [List.length_map]; exact (bv_slice Y1.out).choose_spec.choose_spec.2)⟩
              · refine GrowStep.det ?_
                intro a W hg hop
                have h0 : a.eval (.tmp 0) = (Value.slice (some ⟨ga, oa, none⟩) la.length ca) := (hop 0 (by simp [Op.operands, Call.operands]))
                have h0' : a.tmps[0]?.getD undef = (Value.slice (some ⟨ga, oa, none⟩) la.length ca) := by simpa [Act.eval] using h0
                refine ⟨(Value.slice (some ⟨ga, oa, none⟩) la.length ca), ?_, rfl⟩
                simp only [execOp, h0]
                go_simp
              · refine GrowStep.det ?_
                intro a W hg hop
                have h0 : a.eval (.tmp 6) = (.int .i64 i) := (hop 6 (by simp [Op.operands, Call.operands]))
                have h0' : a.tmps[6]?.getD undef = (.int .i64 i) := by simpa [Act.eval] using h0
                refine ⟨(.int .i64 i), ?_, rfl⟩
                simp only [execOp, h0]
                go_simp
              · refine GrowStep.det ?_
                intro a W hg hop
                have h0 : a.eval (.tmp 49) = (Value.slice (some ⟨ga, oa, none⟩) la.length ca) := (hop 49 (by simp [Op.operands, Call.operands]))
                have h0' : a.tmps[49]?.getD undef = (Value.slice (some ⟨ga, oa, none⟩) la.length ca) := by simpa [Act.eval] using h0
                have h1 : a.eval (.tmp 50) = (.int .i64 i) := (hop 50 (by simp [Op.operands, Call.operands]))
                have h1' : a.tmps[50]?.getD undef = (.int .i64 i) := by simpa [Act.eval] using h1
                refine ⟨(.pointer (some ⟨ga, oa + i * 2, none⟩)), ?_, rfl⟩
                simp only [execOp, h0, h1]
                go_simp
              · refine GrowStep.det ?_
                intro a W hg hop
                have h0 : a.eval (.tmp 51) = (.pointer (some ⟨ga, oa + i * 2, none⟩)) := (hop 51 (by simp [Op.operands, Call.operands]))
                have h0' : a.tmps[51]?.getD undef = (.pointer (some ⟨ga, oa + i * 2, none⟩)) := by simpa [Act.eval] using h0
                refine ⟨(.pointer (some ⟨ga, oa + i * 2, none⟩)), ?_, rfl⟩
                simp only [execOp, h0]
                go_simp
              · refine GrowStep.det ?_
                intro a W hg hop
                have h0 : a.eval (.tmp 52) = (.pointer (some ⟨ga, oa + i * 2, none⟩)) := (hop 52 (by simp [Op.operands, Call.operands]))
                have h0' : a.tmps[52]?.getD undef = (.pointer (some ⟨ga, oa + i * 2, none⟩)) := by simpa [Act.eval] using h0
                have c1 := hg.cell D1.out
                refine ⟨(Value.slice Ax la[i].1.length cx), ?_, rfl⟩
                simp only [execOp, h0]
                go_simp
              · refine GrowStep.call ?_ ?_ ?_ ?_
                · exact fun t u w1 w2 k h => peS_le _ _ _ _ _ _ _ _ _ _ t u w1 w2 k h
                · exact fun _ _ _ _ h => h
                · exact hGl
                intro a W hg hop
                have h0 : a.eval (.tmp 53) = (Value.slice Ax la[i].1.length cx) := (hop 53 (by simp [Op.operands, Call.operands]))
                have h0' : a.tmps[53]?.getD undef = (Value.slice Ax la[i].1.length cx) := by simpa [Act.eval] using h0
                refine ⟨73, #[(Value.slice Ax la[i].1.length cx)], ?_, (lowered_c (Value.slice Ax la[i].1.length cx) _ W (X1.out.le hg)).mono ?_⟩
                · simp only [execOp, h0]
                  go_simp
                · rintro e w' ⟨v', rfl, hk, hle⟩; exact ⟨v', rfl, hle, _, hk.bv (by rw [List.length_map]; exact (bv_slice X1.out).choose_spec.choose_spec.2)⟩
              · refine GrowStep.call ?_ ?_ ?_ ?_
                · exact fun t u w1 w2 k h => peS_le _ _ _ _ _ _ _ _ _ _ t u w1 w2 k h
                · exact fun _ _ _ _ h => h
                · exact hGl
                intro a W hg hop
                obtain ⟨l1, k1⟩ : ∃ l, Bv W (a.eval (.tmp 48)) l := (hop 48 (by simp [Op.operands, Call.operands]))
                obtain ⟨l2, k2⟩ : ∃ l, Bv W (a.eval (.tmp 54)) l := (hop 54 (by simp [Op.operands, Call.operands]))
                generalize hy1 : a.eval (.tmp 48) = y1 at k1
                generalize hy2 : a.eval (.tmp 54) = y2 at k2
                have hy1' : a.tmps[48]?.getD undef = y1 := by simpa [Act.eval] using hy1
                have hy2' : a.tmps[54]?.getD undef = y2 := by simpa [Act.eval] using hy2
                refine ⟨72, #[y1, y2], ?_, (isSame_c y1 y2 _ _ W k1 k2).mono ?_⟩
                · simp only [execOp, hy1, hy2]
                  go_simp
                · rintro e w' ⟨rfl, rfl⟩; exact ⟨_, rfl, Le.refl W, _, rfl⟩
            case hend =>
              intro v w' hg hS hZ
              have HG := Lib.hid hg
              obtain ⟨rr, s28⟩ : ∃ r, v 55 = .bool r := hS 55 (by decide)
              clear hS hZ hg
              simp only [putsL, Act.put, List.setIfInBounds_toArray, List.set_cons_zero, List.set_cons_succ]
              rw [s28]
              clear s28

              cases rr
              case true =>
                go_wp2
                go_ret2
                exact ⟨HG.out, .inr ⟨_, rfl⟩⟩
              case false =>
                go_wp2
                go_roundg (gk - 1)
                case measure => omega
                case rel => exact ⟨m + 1, by omega, by go_num, HG.out⟩
          · go_wp2
            go_ret2
            exact ⟨HG0.out, .inl ⟨_, rfl, HDA.out, HDB.out, HX.out⟩⟩
    · have HX : Hid (EqR la lb true) := Lib.hid ⟨fun _ => ⟨HLE.out, fun k v h => by
        have h1 := HQ.out
        rw [List.take_of_length_le (by omega)] at h1
        exact h1 (k, v) (fnd_mem h)⟩, fun _ => rfl⟩
      go_wp2
      go_ret2
      exact ⟨HL3.out, .inl ⟨_, rfl, HDA.out, HDB.out, HX.out⟩⟩
end Go.Proofs.YtgelnjcjpkklbaaGreatDoor

