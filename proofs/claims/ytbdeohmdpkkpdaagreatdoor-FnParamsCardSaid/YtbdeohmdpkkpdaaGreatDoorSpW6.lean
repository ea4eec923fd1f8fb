/- Contracts: the specification's isApart, pairsOf (printed by gen_apart.py). -/
import Derived.Test.YtbdeohmdpkkpdaaGreatDoorSpW5
import Derived.Test.YtbdeohmdpkkpdaaGreatDoorHead
set_option linter.unusedVariables false
set_option linter.unusedSimpArgs false
namespace Go.Proofs.YtbdeohmdpkkpdaaGreatDoor
open Go.RowKit

/-- the key at a place, in small letters -/
def lowK (l : KVs) (i : Nat) : Tx := ((l.getD i ([], [])).1).map lowC
theorem lowK_at {l : KVs} {i : Nat} (h : i < l.length) : lowK l i = l[i].1.map lowC := by unfold lowK; rw [List.getD_eq_getElem?_getD, List.getElem?_eq_getElem h]; rfl
/-- the first n keys are apart -/
def apTo (l : KVs) (n : Nat) : Prop := ∀ a b, b < a → a < n → lowK l a ≠ lowK l b
theorem apB_true {l : KVs} (h : apTo l l.length) : apB l = true := by
  unfold apB
  refine decide_eq_true (List.pairwise_iff_getElem.2 fun i j hi hj hij => ?_)
  have := h j i hij hj
  rw [lowK_at hi, lowK_at hj] at this
  exact fun e => this e.symm
theorem apB_false {l : KVs} {i k : Nat} (hi : i < l.length) (hk : k < i) (h : lowK l i = lowK l k) : apB l = false := by
  unfold apB
  refine decide_eq_false fun hp => ?_
  have := List.pairwise_iff_getElem.1 hp k i (by omega) hi hk
  rw [lowK_at hi, lowK_at (show k < l.length by omega)] at h
  exact this h.symm

/-- the slots of the region that compares two keys -/
def iaS (sv : Value) (i k : Nat) (pi pk x y : Value) (a b : Tx) : Nat → Value → World → Prop
  | 0, v, _ => v = sv
  | 3, v, _ => v = .int .i64 i
  | 4, v, _ => v = .int .i64 k
  | 16, v, _ => v = sv
  | 17, v, _ => v = .int .i64 i
  | 18, v, _ => v = pi
  | 19, v, _ => v = pi
  | 20, v, _ => v = x
  | 21, v, w => Bv w v (a.map lowC)
  | 22, v, _ => v = sv
  | 23, v, _ => v = .int .i64 k
  | 24, v, _ => v = pk
  | 25, v, _ => v = pk
  | 26, v, _ => v = y
  | 27, v, w => Bv w v (b.map lowC)
  | 28, v, _ => v = .bool (decide (a.map lowC = b.map lowC))
  | _, _, _ => True
theorem iaS_le (sv : Value) (i k : Nat) (pi pk x y : Value) (a b : Tx) (t : Nat) (v : Value) (w w' : World) (h : Le w w') (hs : iaS sv i k pi pk x y a b t v w) : iaS sv i k pi pk x y a b t v w' := by
  unfold iaS at hs ⊢
  split at hs <;> first | exact hs | exact hs.le h
set_option maxRecDepth 4000 in
set_option maxHeartbeats 4000000 in
theorem isApart_c (φ : Nat → Prop) (v : Value) (l : KVs) (w : World) (hv : Kq φ w v l) : Calls Tryz.prog 78 #[v] w fun e w' => e = .returned (.bool (apB l)) ∧ Le w w' := by
  have HV := Lib.hid hv
  obtain ⟨A, cc, rfl, h1, h2, h3, _⟩ := hv
  go_enter Tryz.func78, Tryz.ntmps78
  go_wp2
  go_loopg [3] (l.length) (fun n i wr => ∃ k : Nat, n + k = l.length ∧ i = .int .i64 k ∧ Le w wr ∧ Hid (apTo l k))
  case atStart => exact ⟨0, by omega, rfl, Le.refl w, Lib.hid fun a b hb ha => by omega⟩
  case round =>
    obtain ⟨i, hn, rfl, hle, HQ⟩ := hrel
    have HLE := Lib.hid hle
    have HN : gk + i ≤ l.length ∧ l.length ≤ gk + i := by omega
    clear hn hle
    by_cases hlt : i < l.length
    · obtain ⟨g, o, rfl, x, x2, d1, d2, X, X2⟩ := HV.out.at_ hlt
      clear d2
      have D1 := Lib.hid d1
      clear d1
      go_wp2
      rename World => wr
      obtain ⟨wo, hwo⟩ : ∃ wo : World, wo = wr := ⟨_, rfl⟩
      clear hwo
      go_loopg [4] (i) (fun n k wx => ∃ j : Nat, n + j = i ∧ k = .int .i64 j ∧ Le w wx ∧ Hid (∀ b, b < j → lowK l i ≠ lowK l b))
      case atStart => exact ⟨0, by omega, rfl, HLE.out, Lib.hid fun b hb => by omega⟩
      case round =>
        obtain ⟨k, hn, rfl, hle, HK⟩ := hrel
        have HLE2 := Lib.hid hle
        have HM : gk + k ≤ i ∧ i ≤ gk + k := by omega
        clear hn hle
        by_cases hki : k < i
        · obtain ⟨g', o', e', y, y2, e1, e2, Y, Y2⟩ := HV.out.at_ (k := k) (by omega)
          obtain ⟨rfl, rfl⟩ : g = g' ∧ o = o' := by injection e' with e'; injection e' with e1 e2; exact ⟨e1, e2⟩
          clear e' e2
          have E1 := Lib.hid e1
          clear e1
          have hkl : k < l.length := by omega
          go_wp2
          have hm : (Tryz.prog).follows .mixedOrders = true := by kernel_rfl
          have hGl : ∀ w1 w2, Le w1 w2 → Le w w1 → Le w w2 := fun w1 w2 k h => Le.trans h k
          have hSl := iaS_le (Value.slice (some ⟨g, o, none⟩) l.length cc) i k (.pointer (some ⟨g, o + i * 2, none⟩)) (.pointer (some ⟨g, o + k * 2, none⟩)) x y l[i].1 (l[k]'(by omega)).1
          refine wp_region_grow_put (iaS (Value.slice (some ⟨g, o, none⟩) l.length cc) i k (.pointer (some ⟨g, o + i * 2, none⟩)) (.pointer (some ⟨g, o + k * 2, none⟩)) x y l[i].1 (l[k]'(by omega)).1) (fun _ _ => True) (Le w) 29 [16, 17, 18, 19, 20, 21, 22, 23, 24, 25, 26, 27, 28] hm (by kernel_rfl) rfl rfl ?hG ?hold ?hs ?hend
          case hG => exact HLE2.out.drew
          case hold =>
            intro t ht
            simp only [List.mem_cons, List.mem_nil_iff, or_false, not_or] at ht
            unfold iaS
            split <;> first | rfl | trivial | (exfalso; simp at ht)
          case hs =>
            refine ⟨?_, ?_, ?_, ?_, ?_, ?_, ?_, ?_, ?_, ?_, ?_, ?_, ?_, trivial⟩
            · refine GrowStep.det ?_
              intro a W hg hop
              have h0 : a.eval (.tmp 0) = (Value.slice (some ⟨g, o, none⟩) l.length cc) := (hop 0 (by simp [Op.operands, Call.operands]))
              have h0' : a.tmps[0]?.getD undef = (Value.slice (some ⟨g, o, none⟩) l.length cc) := by simpa [Act.eval] using h0
              refine ⟨(Value.slice (some ⟨g, o, none⟩) l.length cc), ?_, rfl⟩
              simp only [execOp, h0]
              go_simp
            · refine GrowStep.det ?_
              intro a W hg hop
              have h0 : a.eval (.tmp 3) = .int .i64 i := (hop 3 (by simp [Op.operands, Call.operands]))
              have h0' : a.tmps[3]?.getD undef = .int .i64 i := by simpa [Act.eval] using h0
              refine ⟨.int .i64 i, ?_, rfl⟩
              simp only [execOp, h0]
              go_simp
            · refine GrowStep.det ?_
              intro a W hg hop
              have h0 : a.eval (.tmp 16) = (Value.slice (some ⟨g, o, none⟩) l.length cc) := (hop 16 (by simp [Op.operands, Call.operands]))
              have h0' : a.tmps[16]?.getD undef = (Value.slice (some ⟨g, o, none⟩) l.length cc) := by simpa [Act.eval] using h0
              have h1 : a.eval (.tmp 17) = .int .i64 i := (hop 17 (by simp [Op.operands, Call.operands]))
              have h1' : a.tmps[17]?.getD undef = .int .i64 i := by simpa [Act.eval] using h1
              refine ⟨(.pointer (some ⟨g, o + i * 2, none⟩)), ?_, rfl⟩
              simp only [execOp, h0, h1]
              go_simp
            · refine GrowStep.det ?_
              intro a W hg hop
              have h0 : a.eval (.tmp 18) = (.pointer (some ⟨g, o + i * 2, none⟩)) := (hop 18 (by simp [Op.operands, Call.operands]))
              have h0' : a.tmps[18]?.getD undef = (.pointer (some ⟨g, o + i * 2, none⟩)) := by simpa [Act.eval] using h0
              refine ⟨(.pointer (some ⟨g, o + i * 2, none⟩)), ?_, rfl⟩
              simp only [execOp, h0]
              go_simp
            · refine GrowStep.det ?_
              intro a W hg hop
              have h0 : a.eval (.tmp 19) = (.pointer (some ⟨g, o + i * 2, none⟩)) := (hop 19 (by simp [Op.operands, Call.operands]))
              have h0' : a.tmps[19]?.getD undef = (.pointer (some ⟨g, o + i * 2, none⟩)) := by simpa [Act.eval] using h0
              have c1 := hg.cell D1.out
              refine ⟨x, ?_, rfl⟩
              simp only [execOp, h0]
              go_simp
            · refine GrowStep.call ?_ ?_ ?_ ?_
              · exact fun t u w1 w2 k h => hSl t u w1 w2 k h
              · exact fun _ _ _ _ h => h
              · exact hGl
              intro a W hg hop
              have h0 : a.eval (.tmp 20) = x := (hop 20 (by simp [Op.operands, Call.operands]))
              have h0' : a.tmps[20]?.getD undef = x := by simpa [Act.eval] using h0
              refine ⟨54, #[x], ?_, (lowered_c x _ W (X.out.le hg)).mono ?_⟩
              · simp only [execOp, h0]
                go_simp
              · rintro e w' ⟨v', rfl, hk, hle⟩; exact ⟨v', rfl, hle, hk.bv (by rw [List.length_map]; exact (bv_slice X.out).choose_spec.choose_spec.2)⟩
            · refine GrowStep.det ?_
              intro a W hg hop
              have h0 : a.eval (.tmp 0) = (Value.slice (some ⟨g, o, none⟩) l.length cc) := (hop 0 (by simp [Op.operands, Call.operands]))
              have h0' : a.tmps[0]?.getD undef = (Value.slice (some ⟨g, o, none⟩) l.length cc) := by simpa [Act.eval] using h0
              refine ⟨(Value.slice (some ⟨g, o, none⟩) l.length cc), ?_, rfl⟩
              simp only [execOp, h0]
              go_simp
            · refine GrowStep.det ?_
              intro a W hg hop
              have h0 : a.eval (.tmp 4) = .int .i64 k := (hop 4 (by simp [Op.operands, Call.operands]))
              have h0' : a.tmps[4]?.getD undef = .int .i64 k := by simpa [Act.eval] using h0
              refine ⟨.int .i64 k, ?_, rfl⟩
              simp only [execOp, h0]
              go_simp
            · refine GrowStep.det ?_
              intro a W hg hop
              have h0 : a.eval (.tmp 22) = (Value.slice (some ⟨g, o, none⟩) l.length cc) := (hop 22 (by simp [Op.operands, Call.operands]))
              have h0' : a.tmps[22]?.getD undef = (Value.slice (some ⟨g, o, none⟩) l.length cc) := by simpa [Act.eval] using h0
              have h1 : a.eval (.tmp 23) = .int .i64 k := (hop 23 (by simp [Op.operands, Call.operands]))
              have h1' : a.tmps[23]?.getD undef = .int .i64 k := by simpa [Act.eval] using h1
              refine ⟨(.pointer (some ⟨g, o + k * 2, none⟩)), ?_, rfl⟩
              simp only [execOp, h0, h1]
              go_simp
            · refine GrowStep.det ?_
              intro a W hg hop
              have h0 : a.eval (.tmp 24) = (.pointer (some ⟨g, o + k * 2, none⟩)) := (hop 24 (by simp [Op.operands, Call.operands]))
              have h0' : a.tmps[24]?.getD undef = (.pointer (some ⟨g, o + k * 2, none⟩)) := by simpa [Act.eval] using h0
              refine ⟨(.pointer (some ⟨g, o + k * 2, none⟩)), ?_, rfl⟩
              simp only [execOp, h0]
              go_simp
            · refine GrowStep.det ?_
              intro a W hg hop
              have h0 : a.eval (.tmp 25) = (.pointer (some ⟨g, o + k * 2, none⟩)) := (hop 25 (by simp [Op.operands, Call.operands]))
              have h0' : a.tmps[25]?.getD undef = (.pointer (some ⟨g, o + k * 2, none⟩)) := by simpa [Act.eval] using h0
              have c1 := hg.cell E1.out
              refine ⟨y, ?_, rfl⟩
              simp only [execOp, h0]
              go_simp
            · refine GrowStep.call ?_ ?_ ?_ ?_
              · exact fun t u w1 w2 k h => hSl t u w1 w2 k h
              · exact fun _ _ _ _ h => h
              · exact hGl
              intro a W hg hop
              have h0 : a.eval (.tmp 26) = y := (hop 26 (by simp [Op.operands, Call.operands]))
              have h0' : a.tmps[26]?.getD undef = y := by simpa [Act.eval] using h0
              refine ⟨54, #[y], ?_, (lowered_c y _ W (Y.out.le hg)).mono ?_⟩
              · simp only [execOp, h0]
                go_simp
              · rintro e w' ⟨v', rfl, hk, hle⟩; exact ⟨v', rfl, hle, hk.bv (by rw [List.length_map]; exact (bv_slice Y.out).choose_spec.choose_spec.2)⟩
            · refine GrowStep.call ?_ ?_ ?_ ?_
              · exact fun t u w1 w2 k h => hSl t u w1 w2 k h
              · exact fun _ _ _ _ h => h
              · exact hGl
              intro a W hg hop
              have k1 : Bv W (a.eval (.tmp 21)) (l[i].1.map lowC) := (hop 21 (by simp [Op.operands, Call.operands]))
              have k2 : Bv W (a.eval (.tmp 27)) ((l[k]'(by omega)).1.map lowC) := (hop 27 (by simp [Op.operands, Call.operands]))
              generalize hy1 : a.eval (.tmp 21) = y1 at k1
              generalize hy2 : a.eval (.tmp 27) = y2 at k2
              have hy1' : a.tmps[21]?.getD undef = y1 := by simpa [Act.eval] using hy1
              have hy2' : a.tmps[27]?.getD undef = y2 := by simpa [Act.eval] using hy2
              refine ⟨55, #[y1, y2], ?_, (isSame_c y1 y2 _ _ W k1 k2).mono ?_⟩
              · simp only [execOp, hy1, hy2]
                go_simp
              · rintro e w' ⟨rfl, rfl⟩; exact ⟨_, rfl, Le.refl W, rfl⟩
          case hend =>
            intro v w' hg hS hZ
            have HG := Lib.hid hg
            have s28 : v 28 = .bool (decide (l[i].1.map lowC = (l[k]'(by omega)).1.map lowC)) := hS 28 (by decide)
            clear hS hZ hg
            simp only [putsL, Act.put, List.setIfInBounds_toArray, List.set_cons_zero, List.set_cons_succ]
            rw [s28]
            by_cases hq : l[i].1.map lowC = (l[k]'(by omega)).1.map lowC
            · have HF : Hid (apB l = false) := Lib.hid (apB_false hlt hki (by rw [lowK_at hlt, lowK_at (show k < l.length by omega)]; exact hq))
              rw [decide_eq_true hq]
              clear s28 hq
              go_wp2
              go_ret
              exact ⟨by rw [HF.out]; rfl, HG.out⟩
            · have HF : Hid (∀ b, b < k + 1 → lowK l i ≠ lowK l b) := Lib.hid fun b hb => by
                rcases Nat.lt_or_ge b k with h | h
                · exact HK.out b h
                · obtain rfl : b = k := by omega
                  rw [lowK_at hlt, lowK_at (show b < l.length by omega)]
                  exact hq
              rw [decide_eq_false hq]
              clear s28 hq
              go_wp2
              go_roundg (i - k - 1)
              case measure => omega
              case rel => exact ⟨k + 1, by omega, by go_num, HG.out, HF⟩
        · obtain rfl : k = i := by omega
          have HF : Hid (apTo l (k + 1)) := Lib.hid fun a b hb ha => by
            rcases Nat.lt_or_ge a k with h | h
            · exact HQ.out a b hb h
            · obtain rfl : a = k := by omega
              exact HK.out b hb
          go_wp2
          go_roundg (l.length - k - 1)
          case measure => omega
          case rel => exact ⟨k + 1, by omega, by go_num, HLE2.out, HF⟩
    · have HF : Hid (apB l = true) := Lib.hid (by
        have h := HQ.out
        obtain rfl : i = l.length := by omega
        exact apB_true h)
      go_wp2
      go_ret
      exact ⟨by rw [HF.out]; rfl, HLE.out⟩

end Go.Proofs.YtbdeohmdpkkpdaaGreatDoor
