/- Contracts: the specification's isApart, pairsOf (printed by gen_apart.py). Contract: the specification's pairsOf (printed by gen_pairs.py). -/
import Derived.Test.YteedhaenbamiaaaGreatDoorSpWb
import Derived.Test.YteedhaenbamiaaaGreatDoorHead
import Derived.Deep.Onto
set_option linter.unusedVariables false
set_option linter.unusedSimpArgs false
namespace Go.Proofs.YteedhaenbamiaaaGreatDoor
open Go.RowKit

/-- the key at a place, in small letters -/
def lowK (l : KVs) (i : Nat) : Tx := ((l.getD i ([], [])).1).map lowC
theorem lowK_at {l : KVs} {i : Nat} (h : i < l.length) : lowK l i = l[i].1.map lowC := by unfold lowK; rw [List.getD_eq_getElem?_getD, List.getElem?_eq_getElem h]; rfl
/-- the first n keys are apart -/
def apTo (l : KVs) (n : Nat) : Prop := ∀ a b, b < a → a < n → lowK l a ≠ lowK l b
theorem apB_true {l : KVs} (h : apTo l l.length) : apB l = true := by
  unfold apB
  refine decide_eq_true (List.pairwise_iff_getElem.2 fun i j hi hj hij => ?_)
  have := h j i hij hj
  rw [lowK_at hi, lowK_at hj] at this
  exact fun e => this e.symm
theorem apB_false {l : KVs} {i k : Nat} (hi : i < l.length) (hk : k < i) (h : lowK l i = lowK l k) : apB l = false := by
  unfold apB
  refine decide_eq_false fun hp => ?_
  have := List.pairwise_iff_getElem.1 hp k i (by omega) hi hk
  rw [lowK_at hi, lowK_at (show k < l.length by omega)] at h
  exact this h.symm

/-- the slots of the region that compares two keys -/
def iaS (sv : Value) (i k : Nat) (pi pk x y : Value) (a b : Tx) : Nat → Value → World → Prop
  | 0, v, _ => v = sv
  | 3, v, _ => v = .int .i64 i
  | 4, v, _ => v = .int .i64 k
  | 16, v, _ => v = sv
  | 17, v, _ => v = .int .i64 i
  | 18, v, _ => v = pi
  | 19, v, _ => v = pi
  | 20, v, _ => v = x
  | 21, v, w => Bv w v (a.map lowC)
  | 22, v, _ => v = sv
  | 23, v, _ => v = .int .i64 k
  | 24, v, _ => v = pk
  | 25, v, _ => v = pk
  | 26, v, _ => v = y
  | 27, v, w => Bv w v (b.map lowC)
  | 28, v, _ => v = .bool (decide (a.map lowC = b.map lowC))
  | _, _, _ => True
theorem iaS_le (sv : Value) (i k : Nat) (pi pk x y : Value) (a b : Tx) (t : Nat) (v : Value) (w w' : World) (h : Le w w') (hs : iaS sv i k pi pk x y a b t v w) : iaS sv i k pi pk x y a b t v w' := by
  unfold iaS at hs ⊢
  split at hs <;> first | exact hs | exact hs.le h
set_option maxRecDepth 4000 in
set_option maxHeartbeats 4000000 in
theorem isApart_c (φ : Nat → Prop) (v : Value) (l : KVs) (w : World) (hv : Kq φ w v l) : Calls Tryz.prog 114 #[v] w fun e w' => e = .returned (.bool (apB l)) ∧ Le w w' := by
  have HV := Lib.hid hv
  obtain ⟨A, cc, rfl, h1, h2, h3, _⟩ := hv
  go_enter Tryz.func114, Tryz.ntmps114
  go_wp2
  go_loopg [3] (l.length) (fun n i wr => ∃ k : Nat, n + k = l.length ∧ i = .int .i64 k ∧ Le w wr ∧ Hid (apTo l k))
  case atStart => exact ⟨0, by omega, rfl, Le.refl w, Lib.hid fun a b hb ha => by omega⟩
  case round =>
    obtain ⟨i, hn, rfl, hle, HQ⟩ := hrel
    have HLE := Lib.hid hle
    have HN : gk + i ≤ l.length ∧ l.length ≤ gk + i := by omega
    clear hn hle
    by_cases hlt : i < l.length
    · obtain ⟨g, o, rfl, x, x2, d1, d2, X, X2⟩ := HV.out.at_ hlt
      clear d2
      have D1 := Lib.hid d1
      clear d1
      go_wp2
      rename World => wr
      obtain ⟨wo, hwo⟩ : ∃ wo : World, wo = wr := ⟨_, rfl⟩
      clear hwo
      go_loopg [4] (i) (fun n k wx => ∃ j : Nat, n + j = i ∧ k = .int .i64 j ∧ Le w wx ∧ Hid (∀ b, b < j → lowK l i ≠ lowK l b))
      case atStart => exact ⟨0, by omega, rfl, HLE.out, Lib.hid fun b hb => by omega⟩
      case round =>
        obtain ⟨k, hn, rfl, hle, HK⟩ := hrel
        have HLE2 := Lib.hid hle
        have HM : gk + k ≤ i ∧ i ≤ gk + k := by omega
        clear hn hle
        by_cases hki : k < i
        · obtain ⟨g', o', e', y, y2, e1, e2, Y, Y2⟩ := HV.out.at_ (k := k) (by omega)
          obtain ⟨rfl, rfl⟩ : g = g' ∧ o = o' := by injection e' with e'; injection e' with e1 e2; exact ⟨e1, e2⟩
          clear e' e2
          have E1 := Lib.hid e1
          clear e1
          have hkl : k < l.length := by omega
          go_wp2
          have hm : (Tryz.prog).follows .mixedOrders = true := by kernel_rfl
          have hGl : ∀ w1 w2, Le w1 w2 → Le w w1 → Le w w2 := fun w1 w2 k h => Le.trans h k
          have hSl := iaS_le (Value.slice (some ⟨g, o, none⟩) l.length cc) i k (.pointer (some ⟨g, o + i * 2, none⟩)) (.pointer (some ⟨g, o + k * 2, none⟩)) x y l[i].1 (l[k]'(by omega)).1
          refine wp_region_grow_put (iaS (Value.slice (some ⟨g, o, none⟩) l.length cc) i k (.pointer (some ⟨g, o + i * 2, none⟩)) (.pointer (some ⟨g, o + k * 2, none⟩)) x y l[i].1 (l[k]'(by omega)).1) (fun _ _ => True) (Le w) 29 [16, 17, 18, 19, 20, 21, 22, 23, 24, 25, 26, 27, 28] hm (by kernel_rfl) rfl rfl ?hG ?hold ?hs ?hend
          case hG => exact HLE2.out.drew
          case hold =>
            intro t ht
            simp only [List.mem_cons, List.mem_nil_iff, or_false, not_or] at ht
            unfold iaS
            split <;> first | rfl | trivial | (exfalso; simp at ht)
          case hs =>
            refine ⟨?_, ?_, ?_, ?_, ?_, ?_, ?_, ?_, ?_, ?_, ?_, ?_, ?_, trivial⟩
            · refine GrowStep.det ?_
              intro a W hg hop
              have h0 : a.eval (.tmp 0) = (Value.slice (some ⟨g, o, none⟩) l.length cc) := (hop 0 (by simp [Op.operands, Call.operands]))
              have h0' : a.tmps[0]?.getD undef = (Value.slice (some ⟨g, o, none⟩) l.length cc) := by simpa [Act.eval] using h0
              refine ⟨(Value.slice (some ⟨g, o, none⟩) l.length cc), ?_, rfl⟩
              simp only [execOp, h0]
              go_simp
            · refine GrowStep.det ?_
              intro a W hg hop
              have h0 : a.eval (.tmp 3) = .int .i64 i := (hop 3 (by simp [Op.operands, Call.operands]))
              have h0' : a.tmps[3]?.getD undef = .int .i64 i := by simpa [Act.eval] using h0
              refine ⟨.int .i64 i, ?_, rfl⟩
              simp only [execOp, h0]
              go_simp
            · refine GrowStep.det ?_
              intro a W hg hop
              have h0 : a.eval (.tmp 16) = (Value.slice (some ⟨g, o, none⟩) l.length cc) := (hop 16 (by simp [Op.operands, Call.operands]))
              have h0' : a.tmps[16]?.getD undef = (Value.slice (some ⟨g, o, none⟩) l.length cc) := by simpa [Act.eval] using h0
              have h1 : a.eval (.tmp 17) = .int .i64 i := (hop 17 (by simp [Op.operands, Call.operands]))
              have h1' : a.tmps[17]?.getD undef = .int .i64 i := by simpa [Act.eval] using h1
              refine ⟨(.pointer (some ⟨g, o + i * 2, none⟩)), ?_, rfl⟩
              simp only [execOp, h0, h1]
              go_simp
            · refine GrowStep.det ?_
              intro a W hg hop
              have h0 : a.eval (.tmp 18) = (.pointer (some ⟨g, o + i * 2, none⟩)) := (hop 18 (by simp [Op.operands, Call.operands]))
              have h0' : a.tmps[18]?.getD undef = (.pointer (some ⟨g, o + i * 2, none⟩)) := by simpa [Act.eval] using h0
              refine ⟨(.pointer (some ⟨g, o + i * 2, none⟩)), ?_, rfl⟩
              simp only [execOp, h0]
              go_simp
            · refine GrowStep.det ?_
              intro a W hg hop
              have h0 : a.eval (.tmp 19) = (.pointer (some ⟨g, o + i * 2, none⟩)) := (hop 19 (by simp [Op.operands, Call.operands]))
              have h0' : a.tmps[19]?.getD undef = (.pointer (some ⟨g, o + i * 2, none⟩)) := by simpa [Act.eval] using h0
              have c1 := hg.cell D1.out
              refine ⟨x, ?_, rfl⟩
              simp only [execOp, h0]
              go_simp
            · refine GrowStep.call ?_ ?_ ?_ ?_
              · exact fun t u w1 w2 k h => hSl t u w1 w2 k h
              · exact fun _ _ _ _ h => h
              · exact hGl
              intro a W hg hop
              have h0 : a.eval (.tmp 20) = x := (hop 20 (by simp [Op.operands, Call.operands]))
              have h0' : a.tmps[20]?.getD undef = x := by simpa [Act.eval] using h0
              refine ⟨82, #[x], ?_, (lowered_c x _ W (X.out.le hg)).mono ?_⟩
              · simp only [execOp, h0]
                go_simp
              · rintro e w' ⟨v', rfl, hk, hle⟩; exact ⟨v', rfl, hle, hk.bv (by rw [List.length_map]; exact (bv_slice X.out).choose_spec.choose_spec.2)⟩
            · refine GrowStep.det ?_
              intro a W hg hop
              have h0 : a.eval (.tmp 0) = (Value.slice (some ⟨g, o, none⟩) l.length cc) := (hop 0 (by simp [Op.operands, Call.operands]))
              have h0' : a.tmps[0]?.getD undef = (Value.slice (some ⟨g, o, none⟩) l.length cc) := by simpa [Act.eval] using h0
              refine ⟨(Value.slice (some ⟨g, o, none⟩) l.length cc), ?_, rfl⟩
              simp only [execOp, h0]
              go_simp
            · refine GrowStep.det ?_
              intro a W hg hop
              have h0 : a.eval (.tmp 4) = .int .i64 k := (hop 4 (by simp [Op.operands, Call.operands]))
              have h0' : a.tmps[4]?.getD undef = .int .i64 k := by simpa [Act.eval] using h0
              refine ⟨.int .i64 k, ?_, rfl⟩
              simp only [execOp, h0]
              go_simp
            · refine GrowStep.det ?_
              intro a W hg hop
              have h0 : a.eval (.tmp 22) = (Value.slice (some ⟨g, o, none⟩) l.length cc) := (hop 22 (by simp [Op.operands, Call.operands]))
              have h0' : a.tmps[22]?.getD undef = (Value.slice (some ⟨g, o, none⟩) l.length cc) := by simpa [Act.eval] using h0
              have h1 : a.eval (.tmp 23) = .int .i64 k := (hop 23 (by simp [Op.operands, Call.operands]))
              have h1' : a.tmps[23]?.getD undef = .int .i64 k := by simpa [Act.eval] using h1
              refine ⟨(.pointer (some ⟨g, o + k * 2, none⟩)), ?_, rfl⟩
              simp only [execOp, h0, h1]
              go_simp
            · refine GrowStep.det ?_
              intro a W hg hop
              have h0 : a.eval (.tmp 24) = (.pointer (some ⟨g, o + k * 2, none⟩)) := (hop 24 (by simp [Op.operands, Call.operands]))
              have h0' : a.tmps[24]?.getD undef = (.pointer (some ⟨g, o + k * 2, none⟩)) := by simpa [Act.eval] using h0
              refine ⟨(.pointer (some ⟨g, o + k * 2, none⟩)), ?_, rfl⟩
              simp only [execOp, h0]
              go_simp
            · refine GrowStep.det ?_
              intro a W hg hop
              have h0 : a.eval (.tmp 25) = (.pointer (some ⟨g, o + k * 2, none⟩)) := (hop 25 (by simp [Op.operands, Call.operands]))
              have h0' : a.tmps[25]?.getD undef = (.pointer (some ⟨g, o + k * 2, none⟩)) := by simpa [Act.eval] using h0
              have c1 := hg.cell E1.out
              refine ⟨y, ?_, rfl⟩
              simp only [execOp, h0]
              go_simp
            · refine GrowStep.call ?_ ?_ ?_ ?_
              · exact fun t u w1 w2 k h => hSl t u w1 w2 k h
              · exact fun _ _ _ _ h => h
              · exact hGl
              intro a W hg hop
              have h0 : a.eval (.tmp 26) = y := (hop 26 (by simp [Op.operands, Call.operands]))
              have h0' : a.tmps[26]?.getD undef = y := by simpa [Act.eval] using h0
              refine ⟨82, #[y], ?_, (lowered_c y _ W (Y.out.le hg)).mono ?_⟩
              · simp only [execOp, h0]
                go_simp
              · rintro e w' ⟨v', rfl, hk, hle⟩; exact ⟨v', rfl, hle, hk.bv (by rw [List.length_map]; exact (bv_slice Y.out).choose_spec.choose_spec.2)⟩
            · refine GrowStep.call ?_ ?_ ?_ ?_
              · exact fun t u w1 w2 k h => hSl t u w1 w2 k h
              · exact fun _ _ _ _ h => h
              · exact hGl
              intro a W hg hop
              have k1 : Bv W (a.eval (.tmp 21)) (l[i].1.map lowC) := (hop 21 (by simp [Op.operands, Call.operands]))
              have k2 : Bv W (a.eval (.tmp 27)) ((l[k]'(by omega)).1.map lowC) := (hop 27 (by simp [Op.operands, Call.operands]))
              generalize hy1 : a.eval (.tmp 21) = y1 at k1
              generalize hy2 : a.eval (.tmp 27) = y2 at k2
              have hy1' : a.tmps[21]?.getD undef = y1 := by simpa [Act.eval] using hy1
              have hy2' : a.tmps[27]?.getD undef = y2 := by simpa [Act.eval] using hy2
              refine ⟨57, #[y1, y2], ?_, (isSame_c y1 y2 _ _ W k1 k2).mono ?_⟩
              · simp only [execOp, hy1, hy2]
                go_simp
              · rintro e w' ⟨rfl, rfl⟩; exact ⟨_, rfl, Le.refl W, rfl⟩
          case hend =>
            intro v w' hg hS hZ
            have HG := Lib.hid hg
            have s28 : v 28 = .bool (decide (l[i].1.map lowC = (l[k]'(by omega)).1.map lowC)) := hS 28 (by decide)
            clear hS hZ hg
            simp only [putsL, Act.put, List.setIfInBounds_toArray, List.set_cons_zero, List.set_cons_succ]
            rw [s28]
            by_cases hq : l[i].1.map lowC = (l[k]'(by omega)).1.map lowC
            · have HF : Hid (apB l = false) := Lib.hid (apB_false hlt hki (by rw [lowK_at hlt, lowK_at (show k < l.length by omega)]; exact hq))
              rw [decide_eq_true hq]
              clear s28 hq
              go_wp2
              go_ret
              exact ⟨by rw [HF.out]; rfl, HG.out⟩
            · have HF : Hid (∀ b, b < k + 1 → lowK l i ≠ lowK l b) := Lib.hid fun b hb => by
                rcases Nat.lt_or_ge b k with h | h
                · exact HK.out b h
                · obtain rfl : b = k := by omega
                  rw [lowK_at hlt, lowK_at (show b < l.length by omega)]
                  exact hq
              rw [decide_eq_false hq]
              clear s28 hq
              go_wp2
              go_roundg (i - k - 1)
              case measure => omega
              case rel => exact ⟨k + 1, by omega, by go_num, HG.out, HF⟩
        · obtain rfl : k = i := by omega
          have HF : Hid (apTo l (k + 1)) := Lib.hid fun a b hb ha => by
            rcases Nat.lt_or_ge a k with h | h
            · exact HQ.out a b hb h
            · obtain rfl : a = k := by omega
              exact HK.out b hb
          go_wp2
          go_roundg (l.length - k - 1)
          case measure => omega
          case rel => exact ⟨k + 1, by omega, by go_num, HLE2.out, HF⟩
    · have HF : Hid (apB l = true) := Lib.hid (by
        have h := HQ.out
        obtain rfl : i = l.length := by omega
        exact apB_true h)
      go_wp2
      go_ret
      exact ⟨by rw [HF.out]; rfl, HLE.out⟩

end Go.Proofs.YteedhaenbamiaaaGreatDoor
set_option linter.unusedVariables false
set_option linter.unusedSimpArgs false
namespace Go.Proofs.YteedhaenbamiaaaGreatDoor
open Go.RowKit

theorem skv_info : ((Tryz.prog).info? 103).map (fun i => (i.zero, i.size, i.bytes)) = some (some (.agg #[.slice none 0 0, .slice none 0 0]), 2, 48) := by kernel_rfl
/-- values, two by two, that read as pairs -/
def PAll (w : World) (xs : List Value) (l : KVs) : Prop := xs.length = l.length * 2 ∧ ∀ j (h : j < l.length), ∃ x y, xs[j * 2]? = some x ∧ xs[j * 2 + 1]? = some y ∧ Bv w x l[j].1 ∧ Bv w y l[j].2
theorem PAll.nil (w : World) : PAll w [] [] := ⟨rfl, fun j h => by simp at h⟩
theorem PAll.snoc {w : World} {xs : List Value} {l : KVs} (h : PAll w xs l) {x y : Value} {a b : Tx} (hx : Bv w x a) (hy : Bv w y b) : PAll w (xs ++ [x, y]) (l ++ [(a, b)]) := by
  refine ⟨by simp only [List.length_append, List.length_cons, List.length_nil, h.1]; omega, fun j hj => ?_⟩
  have hxl := h.1
  by_cases hlt : j < l.length
  · obtain ⟨x', y', e1, e2, e3, e4⟩ := h.2 j hlt
    exact ⟨x', y', by rw [List.getElem?_append_left (by omega)]; exact e1, by rw [List.getElem?_append_left (by omega)]; exact e2, by rw [List.getElem_append_left hlt]; exact e3, by rw [List.getElem_append_left hlt]; exact e4⟩
  · simp only [List.length_append, List.length_cons, List.length_nil] at hj
    obtain rfl : j = l.length := by omega
    refine ⟨x, y, ?_, ?_, by simpa using hx, by simpa using hy⟩
    · rw [List.getElem?_append_right (by omega), show l.length * 2 - xs.length = 0 from by omega]; rfl
    · rw [List.getElem?_append_right (by omega), show l.length * 2 + 1 - xs.length = 1 from by omega]; rfl
theorem Kq.of_row {w w0 : World} {base : Nat} {E : TypeId} {v : Value} {xs : List Value} {l : KVs} (h : w.ownsRow base E 2 v l.length xs) (k : PAll w0 xs l) (hle : Le w0 w) (hl : l.length ≤ 1099511627776) : Kq (fun _ => True) w v l := by
  have h0 := h
  obtain ⟨_, h2⟩ := h
  rcases h2 with ⟨rfl, hn⟩ | ⟨g, cap, cur, rfl, hg, hh, hle', hm, hs, ht⟩
  · obtain rfl : l = [] := List.eq_nil_of_length_eq_zero hn
    exact Kq.nil _ w
  · unfold maxLen at hm
    refine ⟨_, _, rfl, hle', hm, hl, fun _ => ⟨g, 0, rfl, trivial, fun j hj => ?_⟩⟩
    obtain ⟨x, y, a1, a2, a3, a4⟩ := k.2 j hj
    have b1 := h0.cells (g := g) rfl _ _ a1
    have b2 := h0.cells (g := g) rfl _ _ a2
    rw [add_adr] at b1 b2
    exact ⟨x, y, b1, b2, ⟨a3.le hle, fun _ _ => trivial⟩, ⟨a4.le hle, fun _ _ => trivial⟩⟩
theorem pairs_bad {l signs k v : Tx} {sp : UInt8} {i : Nat} (hi : i < (pcs sp l).length) (he : kvOf (pcs sp l)[i] = (k, v))
    (h : (ixOf (pcs sp l)[i] 61 < (pcs sp l)[i].length ∧ v = []) ∨ k = [] ∨ okOf signs k = false ∨ okOf signs v = false) : pairsS l sp signs = none := by
  have hb : kvOk signs (pcs sp l)[i] = false := by
    unfold kvOk
    rw [he]
    rcases h with ⟨h1, rfl⟩ | rfl | h | h
    · simp [h1]
    · simp
    · simp [h]
    · simp [h]
  unfold pairsS
  rw [if_neg]
  simp only [Bool.and_eq_true]
  rintro ⟨h1, _⟩
  have := List.all_eq_true.1 h1 _ (List.getElem_mem hi)
  rw [hb] at this
  cases this
theorem news2 (wr : World) (o : Obj) (x y : Value) : ∀ j u, [x, y][j]? = some u → ((wr.alloc o).alloc (Obj.cells #[x, y] 103)).cell? ((⟨wr.heap.size + 1, 0, none⟩ : Addr).add j) = some u := by
  have h := World.news_of_block (heap_alloc_new (wr.alloc o) (Obj.cells #[x, y] 103))
  have e : (wr.alloc o).heap.size = wr.heap.size + 1 := by simp
  rw [e] at h
  exact h
/-- a row of pairs of the call's own, from 'base' on: its cells in w, the texts in w0 -/
def KrS (w0 w : World) (base : Nat) (v : Value) (l : KVs) : Prop := ∃ xs, w.ownsRow base 103 2 v l.length xs ∧ PAll w0 xs l
theorem KrS.le {w0 w w' : World} {base : Nat} {v : Value} {l : KVs} (h : KrS w0 w base v l) (k : Le w w') : KrS w0 w' base v l := by
  obtain ⟨xs, h1, h2⟩ := h; exact ⟨xs, own_le h1 k, h2⟩
theorem KrS.kp {w0 w w' : World} {base b : Nat} {v : Value} {l : KVs} (h : KrS w0 w base v l) (k : Kp b w w') (hb : b < base) : KrS w0 w' base v l := by
  obtain ⟨xs, h1, h2⟩ := h
  exact ⟨xs, h1.kept k (.inr fun e => by have := (h1.lt _ e).1; omega), h2⟩
theorem KrS.kq {w0 w : World} {base : Nat} {v : Value} {l : KVs} (h : KrS w0 w base v l) (hle : Le w0 w) (hl : l.length ≤ 1099511627776) : Kq (fun _ => True) w v l := by
  obtain ⟨xs, h1, h2⟩ := h
  exact Kq.of_row h1 h2 hle hl
def PairsPost (w0 : World) (l : Tx) (sp : UInt8) (signs : Tx) (w : World) (e : Ending) (w' : World) : Prop :=
  ∃ (v : Value) (ok : Bool), e = .returned (.tuple #[v, .bool ok]) ∧ Le w w' ∧ (∃ A m c, v = .slice A m c) ∧ if ok = true then ∃ kvs, pairsS l sp signs = some kvs ∧ kvs.length ≤ 1099511627776 ∧ KrS w0 w' w.heap.size v kvs else pairsS l sp signs = none
theorem skv_size : ((Tryz.prog).info? 103).map (·.size) = some 2 := by kernel_rfl
/-- the slots of the region that parts a pair -/
def prS (sv : Value) (k i : Nat) (pt xv ka va xp : Value) : Nat → Value → World → Prop
  | 9, v, _ => v = sv
  | 10, v, _ => v = .int .i64 k
  | 11, v, _ => v = xp
  | 12, v, _ => v = .int .i64 i
  | 34, v, _ => v = sv
  | 35, v, _ => v = .int .i64 k
  | 36, v, _ => v = pt
  | 37, v, _ => v = xv
  | 38, v, _ => v = .int .i64 i
  | 39, v, _ => v = .int .i64 i
  | 40, v, _ => v = ka
  | 41, v, _ => v = sv
  | 42, v, _ => v = .int .i64 k
  | 43, v, _ => v = pt
  | 44, v, _ => v = xv
  | 45, v, _ => v = .int .i64 i
  | 46, v, _ => v = .int .i64 ((i : Int) + 1)
  | 47, v, _ => v = va
  | 48, v, _ => v = .agg #[ka, va]
  | _, _, _ => True
def prG (W0 : World) (b : Nat) (w : World) : Prop := Kp b W0 w ∧ ∃ cs : Array Value, cs.size = 2 ∧ w.heap[b]? = some (.cells cs 103 (0, 0))
def prZ (b : Nat) (cs : Array Value) (_ : Nat) (w : World) : Prop := w.heap[b]? = some (.cells cs 103 (0, 0))
theorem prK {W0 W : World} {b : Nat} {a : Addr} {v : Value} (h : prG W0 b W) (hb : a.block ≠ b) (hc : W0.cell? a = some v) : W.cell? a = some v :=
  (World.cell?_of_block (h.1.block a.block (lt_of_cell hc) (fun e => hb (by injection e)))).trans hc
set_option maxRecDepth 8000 in
set_option maxHeartbeats 8000000 in
theorem pairsOf_c (v : Value) (l : Tx) (sp : UInt8) (s : ByteArray) (w0 w : World) (h0 : Le w0 w) (hv : Bv w0 v l) (hl : l.length ≤ 1099511627000) (hs : s.size ≤ 1099511627776) :
    Calls Tryz.prog 98 #[v, .int .u8 (sp.toNat : Int), .string s] w (PairsPost w0 l sp (bs s) w) := by
  have HV := Lib.hid hv
  have H0 := Lib.hid h0
  clear hv h0
  go_enter Tryz.func98, Tryz.ntmps98
  go_wp2_with fail
  refine (parts_c v l sp w0 w H0.out HV.out hl).mono ?_
  rintro e w1 ⟨pv, rfl, hsl, hle1⟩
  have HSL := Lib.hid hsl
  have HLE1 := Lib.hid hle1
  obtain ⟨A9, c9, rfl, hk1, hk2, hk3, _⟩ := hsl
  have HL01 := Lib.hid (Le.trans H0.out hle1)
  clear hle1
  obtain ⟨i0, hi0, hz0, hz1, hz2⟩ := info_parts skv_info
  go_wp2
  go_loopg [8, 10] ((pcs sp l).length) (fun n sv i wr => ∃ (k : Nat) (xs : List Value), n + k = (pcs sp l).length ∧ i = .int .i64 k ∧ Le w1 wr ∧ wr.ownsRow w1.heap.size 103 2 sv k xs ∧ PAll w0 xs (((pcs sp l).take k).map kvOf) ∧ ((pcs sp l).take k).all (kvOk (bs s)) = true)
  case atStart => exact ⟨0, [], by omega, rfl, Le.refl w1, World.ownsRow_nil _ _ _ _, PAll.nil _, rfl⟩
  case round =>
    obtain ⟨k, xs, hn, rfl, hle, hown, hpa, hall⟩ := hrel
    have HO := Lib.hid hown
    have HLE := Lib.hid hle
    have HPA := Lib.hid hpa
    have HALL := Lib.hid hall
    have HN : gk + k ≤ (pcs sp l).length ∧ (pcs sp l).length ≤ gk + k := by omega
    have hsz := hle.size
    clear hn hown hpa hall
    by_cases hkl : k < (pcs sp l).length
    · obtain ⟨g, o, rfl, xv, d1, X⟩ := HSL.out.at_ hkl
      have d1 := hle.cell d1
      have HG9 : Hid (g ≠ wr.heap.size) := Lib.hid (by have h : g < wr.heap.size := lt_of_cell d1; omega)
      have d1b : ∀ ob, (wr.alloc ob).cell? ⟨g, o + k, none⟩ = some xv := fun ob => Le.cell ((Le.refl wr).alloc ob) d1
      have HX1 := X.out
      obtain ⟨A, cc, rfl, hpl⟩ := bv_slice HX1
      generalize hpp : (pcs sp l)[k] = p at *
      have HP := Lib.hid hpp
      have hpc : p.length ≤ cc := by obtain ⟨_, _, e, h, _⟩ := HX1; injection e with _ _ e; omega
      clear hpp
      have HB0 := Lib.hid (heap_alloc_new wr (Obj.cells #[(Value.slice A p.length cc), .slice none 0 0] 103))
      have HL0 := Lib.hid ((Le.refl wr).alloc (Obj.cells #[(Value.slice A p.length cc), .slice none 0 0] 103))
      have HD := Lib.hid (d1b (Obj.cells #[(Value.slice A p.length cc), .slice none 0 0] 103))
      have ci := fun W (h : Le w1 W) => indexOf_c (Value.slice A p.length cc) p 61 W (HX1.le (Le.trans HL01.out h))
      rcases ixI_cases p 61 with ⟨i, e1, hi, e2⟩ | ⟨e1, e2⟩
      · rw [e1] at ci
        have HKV : Hid (kvOf (pcs sp l)[k] = (p.take i, p.drop (i + 1))) := Lib.hid (by rw [HP.out]; unfold kvOf; rw [e2, if_pos hi])
        have HIX : Hid (ixOf (pcs sp l)[k] 61 < (pcs sp l)[k].length) := Lib.hid (by rw [HP.out, e2]; exact hi)
        obtain ⟨v2, hb2, q1, q2⟩ := cut_from (k := i + 1) (z := (i : Int) + 1) HX1 hi (by omega)
        have HBV := Lib.hid hb2
        obtain ⟨A2, c2, hv2, hml⟩ := bv_slice hb2
        generalize hm2 : (p.drop (i + 1)).length = m2 at hv2 hml
        subst hv2
        have HM2 := Lib.hid hm2
        have HBK := Lib.hid (cut_to (k := i) HX1 (by omega) (Nat.le_refl i) (by omega))
        have CI := Lib.hid ci
        have HLK : Hid ((p.take i).length = i) := Lib.hid (by rw [List.length_take]; omega)
        have hic : i ≤ cc := by omega
        clear hb2 e1 e2 ci hle hm2
        go_wp2_with fail
        refine (CI.out _ (HLE.out.alloc _)).mono ?_
        rintro e w' ⟨rfl, rfl⟩
        generalize wr.alloc (Obj.cells #[(Value.slice A p.length cc), .slice none 0 0] 103) = W0 at HB0 HL0 HD ⊢
        go_wp2
        have hm : (Tryz.prog).follows .mixedOrders = true := by kernel_rfl
        have i4 : IntKind.i64.wrap ((i : Int) + 1) = i + 1 := IntWalk.i64_in _ (by omega)
        have i5 : (0 : Int) ≤ (i : Int) + 1 := by omega
        have i6 : (i : Int) + 1 ≤ p.length := by omega
        refine wp_region_grow_put (prS (Value.slice (some ⟨g, o, none⟩) (pcs sp l).length c9) k i (.pointer (some ⟨g, o + k, none⟩)) (Value.slice A p.length cc) (.slice A i i) (.slice A2 m2 c2) (.pointer (some ⟨wr.heap.size, 0, none⟩))) (prZ wr.heap.size #[.slice A i i, .slice A2 m2 c2]) (prG W0 wr.heap.size) 78 [34, 35, 36, 37, 38, 39, 40, 41, 42, 43, 44, 45, 46, 47, 48] hm (by kernel_rfl) rfl rfl ?hG ?hold ?hs ?hend
        case hG => exact ⟨(Kp.refl _ _).le (Le.refl _).drew, _, rfl, HB0.out⟩
        case hold =>
          intro t ht
          simp only [List.mem_cons, List.mem_nil_iff, or_false, not_or] at ht
          unfold prS
          split <;> first | rfl | trivial | (exfalso; simp at ht)
        case hs =>
          refine ⟨?_, ?_, ?_, ?_, ?_, ?_, ?_, ?_, ?_, ?_, ?_, ?_, ?_, ?_, ?_, ?_, trivial⟩
          · refine GrowStep.det ?_
            intro a W hg hop
            have h0 : a.eval (.tmp 9) = (Value.slice (some ⟨g, o, none⟩) (pcs sp l).length c9) := (hop 9 (by simp [Op.operands, Call.operands]))
            have h0' : a.tmps[9]?.getD undef = (Value.slice (some ⟨g, o, none⟩) (pcs sp l).length c9) := by simpa [Act.eval] using h0
            refine ⟨(Value.slice (some ⟨g, o, none⟩) (pcs sp l).length c9), ?_, rfl⟩
            simp only [execOp, h0]
            go_simp
          · refine GrowStep.det ?_
            intro a W hg hop
            have h0 : a.eval (.tmp 10) = .int .i64 k := (hop 10 (by simp [Op.operands, Call.operands]))
            have h0' : a.tmps[10]?.getD undef = .int .i64 k := by simpa [Act.eval] using h0
            refine ⟨.int .i64 k, ?_, rfl⟩
            simp only [execOp, h0]
            go_simp
          · refine GrowStep.det ?_
            intro a W hg hop
            have h0 : a.eval (.tmp 34) = (Value.slice (some ⟨g, o, none⟩) (pcs sp l).length c9) := (hop 34 (by simp [Op.operands, Call.operands]))
            have h0' : a.tmps[34]?.getD undef = (Value.slice (some ⟨g, o, none⟩) (pcs sp l).length c9) := by simpa [Act.eval] using h0
            have h1 : a.eval (.tmp 35) = .int .i64 k := (hop 35 (by simp [Op.operands, Call.operands]))
            have h1' : a.tmps[35]?.getD undef = .int .i64 k := by simpa [Act.eval] using h1
            refine ⟨(.pointer (some ⟨g, o + k, none⟩)), ?_, rfl⟩
            simp only [execOp, h0, h1]
            go_simp
          · refine GrowStep.det ?_
            intro a W hg hop
            have h0 : a.eval (.tmp 36) = (.pointer (some ⟨g, o + k, none⟩)) := (hop 36 (by simp [Op.operands, Call.operands]))
            have h0' : a.tmps[36]?.getD undef = (.pointer (some ⟨g, o + k, none⟩)) := by simpa [Act.eval] using h0
            have cc1 : W.cell? ⟨g, o + k, none⟩ = some (Value.slice A p.length cc) := prK hg HG9.out HD.out
            refine ⟨(Value.slice A p.length cc), ?_, rfl⟩
            simp only [execOp, h0]
            go_simp
          · refine GrowStep.det ?_
            intro a W hg hop
            have h0 : a.eval (.tmp 12) = .int .i64 i := (hop 12 (by simp [Op.operands, Call.operands]))
            have h0' : a.tmps[12]?.getD undef = .int .i64 i := by simpa [Act.eval] using h0
            refine ⟨.int .i64 i, ?_, rfl⟩
            simp only [execOp, h0]
            go_simp
          · refine GrowStep.det ?_
            intro a W hg hop
            have h0 : a.eval (.tmp 12) = .int .i64 i := (hop 12 (by simp [Op.operands, Call.operands]))
            have h0' : a.tmps[12]?.getD undef = .int .i64 i := by simpa [Act.eval] using h0
            refine ⟨.int .i64 i, ?_, rfl⟩
            simp only [execOp, h0]
            go_simp
          · refine GrowStep.det ?_
            intro a W hg hop
            have h0 : a.eval (.tmp 37) = (Value.slice A p.length cc) := (hop 37 (by simp [Op.operands, Call.operands]))
            have h0' : a.tmps[37]?.getD undef = (Value.slice A p.length cc) := by simpa [Act.eval] using h0
            have h1 : a.eval (.tmp 38) = .int .i64 i := (hop 38 (by simp [Op.operands, Call.operands]))
            have h1' : a.tmps[38]?.getD undef = .int .i64 i := by simpa [Act.eval] using h1
            have h2 : a.eval (.tmp 39) = .int .i64 i := (hop 39 (by simp [Op.operands, Call.operands]))
            have h2' : a.tmps[39]?.getD undef = .int .i64 i := by simpa [Act.eval] using h2
            refine ⟨(.slice A i i), ?_, rfl⟩
            simp only [execOp, h0, h1, h2]
            go_simp
          · refine GrowStep.det ?_
            intro a W hg hop
            have h0 : a.eval (.tmp 9) = (Value.slice (some ⟨g, o, none⟩) (pcs sp l).length c9) := (hop 9 (by simp [Op.operands, Call.operands]))
            have h0' : a.tmps[9]?.getD undef = (Value.slice (some ⟨g, o, none⟩) (pcs sp l).length c9) := by simpa [Act.eval] using h0
            refine ⟨(Value.slice (some ⟨g, o, none⟩) (pcs sp l).length c9), ?_, rfl⟩
            simp only [execOp, h0]
            go_simp
          · refine GrowStep.det ?_
            intro a W hg hop
            have h0 : a.eval (.tmp 10) = .int .i64 k := (hop 10 (by simp [Op.operands, Call.operands]))
            have h0' : a.tmps[10]?.getD undef = .int .i64 k := by simpa [Act.eval] using h0
            refine ⟨.int .i64 k, ?_, rfl⟩
            simp only [execOp, h0]
            go_simp
          · refine GrowStep.det ?_
            intro a W hg hop
            have h0 : a.eval (.tmp 41) = (Value.slice (some ⟨g, o, none⟩) (pcs sp l).length c9) := (hop 41 (by simp [Op.operands, Call.operands]))
            have h0' : a.tmps[41]?.getD undef = (Value.slice (some ⟨g, o, none⟩) (pcs sp l).length c9) := by simpa [Act.eval] using h0
            have h1 : a.eval (.tmp 42) = .int .i64 k := (hop 42 (by simp [Op.operands, Call.operands]))
            have h1' : a.tmps[42]?.getD undef = .int .i64 k := by simpa [Act.eval] using h1
            refine ⟨(.pointer (some ⟨g, o + k, none⟩)), ?_, rfl⟩
            simp only [execOp, h0, h1]
            go_simp
          · refine GrowStep.det ?_
            intro a W hg hop
            have h0 : a.eval (.tmp 43) = (.pointer (some ⟨g, o + k, none⟩)) := (hop 43 (by simp [Op.operands, Call.operands]))
            have h0' : a.tmps[43]?.getD undef = (.pointer (some ⟨g, o + k, none⟩)) := by simpa [Act.eval] using h0
            have cc1 : W.cell? ⟨g, o + k, none⟩ = some (Value.slice A p.length cc) := prK hg HG9.out HD.out
            refine ⟨(Value.slice A p.length cc), ?_, rfl⟩
            simp only [execOp, h0]
            go_simp
          · refine GrowStep.det ?_
            intro a W hg hop
            have h0 : a.eval (.tmp 12) = .int .i64 i := (hop 12 (by simp [Op.operands, Call.operands]))
            have h0' : a.tmps[12]?.getD undef = .int .i64 i := by simpa [Act.eval] using h0
            refine ⟨.int .i64 i, ?_, rfl⟩
            simp only [execOp, h0]
            go_simp
          · refine GrowStep.det ?_
            intro a W hg hop
            have h0 : a.eval (.tmp 45) = .int .i64 i := (hop 45 (by simp [Op.operands, Call.operands]))
            have h0' : a.tmps[45]?.getD undef = .int .i64 i := by simpa [Act.eval] using h0
            refine ⟨.int .i64 ((i : Int) + 1), ?_, rfl⟩
            simp only [execOp, h0]
            go_simp
          · refine GrowStep.det ?_
            intro a W hg hop
            have h0 : a.eval (.tmp 44) = (Value.slice A p.length cc) := (hop 44 (by simp [Op.operands, Call.operands]))
            have h0' : a.tmps[44]?.getD undef = (Value.slice A p.length cc) := by simpa [Act.eval] using h0
            have h1 : a.eval (.tmp 46) = .int .i64 ((i : Int) + 1) := (hop 46 (by simp [Op.operands, Call.operands]))
            have h1' : a.tmps[46]?.getD undef = .int .i64 ((i : Int) + 1) := by simpa [Act.eval] using h1
            refine ⟨(.slice A2 m2 c2), ?_, rfl⟩
            simp only [execOp, h0, h1]
            go_simp
          · refine GrowStep.det ?_
            intro a W hg hop
            have h0 : a.eval (.tmp 40) = (.slice A i i) := (hop 40 (by simp [Op.operands, Call.operands]))
            have h0' : a.tmps[40]?.getD undef = (.slice A i i) := by simpa [Act.eval] using h0
            have h1 : a.eval (.tmp 47) = (.slice A2 m2 c2) := (hop 47 (by simp [Op.operands, Call.operands]))
            have h1' : a.tmps[47]?.getD undef = (.slice A2 m2 c2) := by simpa [Act.eval] using h1
            refine ⟨(.agg #[.slice A i i, .slice A2 m2 c2]), ?_, rfl⟩
            simp only [execOp, h0, h1]
            go_simp
          · refine GrowStep.store ?_ rfl
            intro a W hg hop
            have h1 : a.eval (.tmp 11) = .pointer (some ⟨wr.heap.size, 0, none⟩) := hop 11 (by simp [Op.operands])
            have h2 : a.eval (.tmp 48) = .agg #[.slice A i i, .slice A2 m2 c2] := hop 48 (by simp [Op.operands])
            obtain ⟨h3, cs, h5, h6⟩ := hg
            have hk := kp_setRow W wr.heap.size #[.slice A i i, .slice A2 m2 c2]
            have hst := run_storeVar_row (P := Tryz.prog) W wr.heap.size 103 103 cs #[.slice A i i, .slice A2 m2 c2] h6 skv_size h5 (by simp only [List.all_toArray, List.all_cons, List.all_nil]; rfl)
            refine ⟨W.setRow wr.heap.size #[.slice A i i, .slice A2 m2 c2], ?_, ⟨h3.trans hk, _, rfl, setRow_heap W _ _ _ _ _ h6⟩, fun t v hh => by unfold prS at hh ⊢; split at hh <;> exact hh, fun _ _ h => setRow_heap W _ _ _ _ _ h6, setRow_heap W _ _ _ _ _ h6⟩
            simp only [execOp, h1, h2, Instr.storeAt, Instr.sureAddr, Sem.run_bind, Sem.run_pure, Result.andThen, hst]
        case hend =>
          intro v WX hg hS hZ
          have hbx : WX.heap[wr.heap.size]? = some (.cells #[.slice A i i, .slice A2 m2 c2] 103 (0, 0)) := hZ 15 _ rfl rfl
          have y0 : WX.cell? ⟨wr.heap.size, 0, none⟩ = some (.slice A i i) := cell_cells hbx 0
          have y1 : WX.cell? ⟨wr.heap.size, 1, none⟩ = some (.slice A2 m2 c2) := cell_cells hbx 1
          have HWX : Hid (Le w1 WX) := Lib.hid (Below.trans (Le.trans HLE.out HL0.out) (hg.1.below hsz (Le.trans HLE.out HL0.out).size))
          have HLEX : Hid (Le w WX) := Lib.hid (Le.trans HLE1.out HWX.out)
          have HOX : Hid (WX.ownsRow w1.heap.size 103 2 u8 k xs) := Lib.hid ((own_le HO.out HL0.out).kept hg.1 (.inr fun e => by have := (HO.out.lt _ e).2; omega))
          clear hS hZ hg hbx
          simp only [putsL, Act.put, List.setIfInBounds_toArray, List.set_cons_zero, List.set_cons_succ]
          by_cases hve : p.drop (i + 1) = []
          · have HF : Hid (pairsS l sp (bs s) = none) := Lib.hid (pairs_bad hkl HKV.out (.inl ⟨HIX.out, hve⟩))
            obtain rfl : m2 = 0 := by rw [← HM2.out, hve]; rfl
            clear hve
            go_wp2
            go_ret2
            exact ⟨_, false, rfl, HLEX.out, ⟨_, _, _, rfl⟩, HF.out⟩
          · have hm2' : 0 < m2 := by rw [← HM2.out]; exact List.length_pos_iff.2 hve
            have e2 : ((m2 : Int) == 0) = false := by simp; omega
            by_cases h0 : i = 0
            · subst h0
              have HF : Hid (pairsS l sp (bs s) = none) := Lib.hid (pairs_bad hkl HKV.out (.inr (.inl rfl)))
              clear hve
              go_wp2
              go_ret2
              exact ⟨_, false, rfl, HLEX.out, ⟨_, _, _, rfl⟩, HF.out⟩
            · have e3 : ((i : Int) == 0) = false := by simp; omega
              have HKOK : Hid (okOf (bs s) (p.take i) = true → okOf (bs s) (p.drop (i + 1)) = true → kvOk (bs s) (pcs sp l)[k] = true) := Lib.hid fun a b => by
                have ht : p.take i ≠ [] := List.length_pos_iff.1 (by rw [HLK.out]; omega)
                unfold kvOk
                rw [HKV.out, a, b]
                simp [hve, ht]
              clear hve h0
              by_cases ho1 : okOf (bs s) (p.take i) = true
              · have k1 := Lib.hid (bool_call (isOf_c (.slice A i i) (p.take i) s WX (HBK.out.le (Le.trans HL01.out HWX.out)) hs) ho1)
                by_cases ho2 : okOf (bs s) (p.drop (i + 1)) = true
                · have HX : Hid (((pcs sp l).take (k + 1)).all (kvOk (bs s)) = true) := Lib.hid (by
                    rw [List.take_succ_eq_append_getElem hkl, List.all_append, HALL.out]
                    simp only [List.all_cons, List.all_nil, Bool.and_true, Bool.true_and]
                    exact HKOK.out ho1 ho2)
                  have k2 := Lib.hid (bool_call (isOf_c (.slice A2 m2 c2) (p.drop (i + 1)) s WX (HBV.out.le (Le.trans HL01.out HWX.out)) hs) ho2)
                  have hszx := HWX.out.size
                  clear ho1 ho2
                  go_wp2_with fail
                  refine k1.out.mono ?_
                  rintro e w' ⟨rfl, rfl⟩
                  go_wp2_with fail
                  refine k2.out.mono ?_
                  rintro e w' ⟨rfl, rfl⟩
                  go_wp2_with ((at_builtin; refine wpList_append_lies _ rfl _ _ 34 rfl w1.heap.size 103 i0 (.agg #[.slice none 0 0, .slice none 0 0]) 2 48 Tryz.underlying34 hi0 hz0 hz1 hz2 rfl (by decide) _ _ _ rfl (HOX.out.alloc _) ⟨WX.heap.size, 0, none⟩ 1 1 [(.slice A i i), (.slice A2 m2 c2)] rfl rfl ?c1 ?c2 ?c3 ?c4 ?c5 ?c6 (WX.heap.size + 1) ?c7 ?_))
                  case c1 => exact World.news_of_block (heap_alloc_new WX _)
                  case c2 => intro u hu; simp only [List.mem_cons, List.mem_nil_iff, or_false] at hu; rcases hu with rfl | rfl <;> rfl
                  case c3 => omega
                  case c4 => unfold maxLen; omega
                  case c5 => omega
                  case c6 => simp; omega
                  case c7 => simp
                  intro g2 cap2 w2 hown2 hgrow2 hat2 hlt2
                  have HLE2 : Hid (Le w1 w2) := Lib.hid (Below.grown' (HWX.out.alloc _) hgrow2 (Nat.le_refl _) (fun g hg => (own_row' HOX.out g hg).1))
                  have HO2 := Lib.hid hown2
                  have HPA2 : Hid (PAll w0 (xs ++ [(.slice A i i), (.slice A2 m2 c2)]) (((pcs sp l).take (k + 1)).map kvOf)) := Lib.hid (by
                    rw [List.take_succ_eq_append_getElem hkl, List.map_append, List.map_cons, List.map_nil, HKV.out]
                    exact HPA.out.snoc HBK.out HBV.out)
                  clear hown2 hgrow2 hat2 hlt2 k1 k2
                  go_wp2
                  go_roundg (gk - 1)
                  case measure => omega
                  case rel => exact ⟨k + 1, _, by omega, by go_num, HLE2.out, HO2.out, HPA2.out, HX.out⟩
                · have ho2' : okOf (bs s) (p.drop (i + 1)) = false := by simpa using ho2
                  have HF : Hid (pairsS l sp (bs s) = none) := Lib.hid (pairs_bad hkl HKV.out (.inr (.inr (.inr ho2'))))
                  have k2 := Lib.hid (bool_call (isOf_c (.slice A2 m2 c2) (p.drop (i + 1)) s WX (HBV.out.le (Le.trans HL01.out HWX.out)) hs) ho2')
                  clear ho1 ho2 ho2'
                  go_wp2_with fail
                  refine k1.out.mono ?_
                  rintro e w' ⟨rfl, rfl⟩
                  go_wp2_with fail
                  refine k2.out.mono ?_
                  rintro e w' ⟨rfl, rfl⟩
                  go_wp2
                  go_ret2
                  exact ⟨_, false, rfl, HLEX.out, ⟨_, _, _, rfl⟩, HF.out⟩
              · have ho1' : okOf (bs s) (p.take i) = false := by simpa using ho1
                have HF : Hid (pairsS l sp (bs s) = none) := Lib.hid (pairs_bad hkl HKV.out (.inr (.inr (.inl ho1'))))
                have k1 := Lib.hid (bool_call (isOf_c (.slice A i i) (p.take i) s WX (HBK.out.le (Le.trans HL01.out HWX.out)) hs) ho1')
                clear ho1 ho1'
                go_wp2_with fail
                refine k1.out.mono ?_
                rintro e w' ⟨rfl, rfl⟩
                go_wp2
                go_ret2
                exact ⟨_, false, rfl, HLEX.out, ⟨_, _, _, rfl⟩, HF.out⟩

      · rw [e1] at ci
        have HKV : Hid (kvOf (pcs sp l)[k] = (p, [])) := Lib.hid (by rw [HP.out]; unfold kvOf; rw [if_neg e2])
        have HIX : Hid (¬ ixOf p 61 < p.length) := Lib.hid e2
        have CI := Lib.hid ci
        clear e1 e2 ci hle
        go_wp2_with fail
        refine (CI.out _ (HLE.out.alloc _)).mono ?_
        rintro e w' ⟨rfl, rfl⟩
        generalize wr.alloc (Obj.cells #[(Value.slice A p.length cc), .slice none 0 0] 103) = WX at HB0 HL0 HD ⊢
        have y0 : WX.cell? ⟨wr.heap.size, 0, none⟩ = some (Value.slice A p.length cc) := cell_cells HB0.out 0
        have y1 : WX.cell? ⟨wr.heap.size, 1, none⟩ = some (.slice none 0 0) := cell_cells HB0.out 1
        have HWX : Hid (Le w1 WX) := Lib.hid (Le.trans HLE.out HL0.out)
        have HLEX : Hid (Le w WX) := Lib.hid (Le.trans HLE1.out HWX.out)
        have HOX : Hid (WX.ownsRow w1.heap.size 103 2 u8 k xs) := Lib.hid (own_le HO.out HL0.out)
        have HBK := Lib.hid HX1
        have HBV : Hid (Bv w0 (.slice none 0 0) []) := Lib.hid (Bv.nil w0)
        clear HB0 HL0
        by_cases h0 : p = []
        · have HF : Hid (pairsS l sp (bs s) = none) := Lib.hid (pairs_bad hkl HKV.out (.inr (.inl h0)))
          have hp0 : p.length = 0 := by rw [h0]; rfl
          have e3 : ((p.length : Int) == 0) = true := by simp [hp0]
          clear h0 hp0
          go_wp2
          go_ret2
          exact ⟨_, false, rfl, HLEX.out, ⟨_, _, _, rfl⟩, HF.out⟩
        · have hp0 : 0 < p.length := List.length_pos_iff.2 h0
          have e3 : ((p.length : Int) == 0) = false := by simp; omega
          have HKOK : Hid (okOf (bs s) p = true → okOf (bs s) [] = true → kvOk (bs s) (pcs sp l)[k] = true) := Lib.hid fun a b => by
            have hx := HIX.out
            rw [← HP.out] at hx a h0
            unfold kvOk
            rw [HKV.out]
            rw [← HP.out]
            simp [hx, a, h0, b]
          clear h0
          by_cases ho1 : okOf (bs s) p = true
          · have k1 := Lib.hid (bool_call (isOf_c (Value.slice A p.length cc) p s WX (HBK.out.le (Le.trans HL01.out HWX.out)) hs) ho1)
            by_cases ho2 : okOf (bs s) [] = true
            · have HX : Hid (((pcs sp l).take (k + 1)).all (kvOk (bs s)) = true) := Lib.hid (by
                rw [List.take_succ_eq_append_getElem hkl, List.all_append, HALL.out]
                simp only [List.all_cons, List.all_nil, Bool.and_true, Bool.true_and]
                exact HKOK.out ho1 ho2)
              have k2 := Lib.hid (bool_call (isOf_c (.slice none 0 0) [] s WX (HBV.out.le (Le.trans HL01.out HWX.out)) hs) ho2)
              have hszx := HWX.out.size
              clear ho1 ho2
              go_wp2_with fail
              refine k1.out.mono ?_
              rintro e w' ⟨rfl, rfl⟩
              go_wp2_with fail
              refine k2.out.mono ?_
              rintro e w' ⟨rfl, rfl⟩
              go_wp2_with ((at_builtin; refine wpList_append_lies _ rfl _ _ 34 rfl w1.heap.size 103 i0 (.agg #[.slice none 0 0, .slice none 0 0]) 2 48 Tryz.underlying34 hi0 hz0 hz1 hz2 rfl (by decide) _ _ _ rfl (HOX.out.alloc _) ⟨WX.heap.size, 0, none⟩ 1 1 [(Value.slice A p.length cc), (.slice none 0 0)] rfl rfl ?c1 ?c2 ?c3 ?c4 ?c5 ?c6 (WX.heap.size + 1) ?c7 ?_))
              case c1 => exact World.news_of_block (heap_alloc_new WX _)
              case c2 => intro u hu; simp only [List.mem_cons, List.mem_nil_iff, or_false] at hu; rcases hu with rfl | rfl <;> rfl
              case c3 => omega
              case c4 => unfold maxLen; omega
              case c5 => omega
              case c6 => simp; omega
              case c7 => simp
              intro g2 cap2 w2 hown2 hgrow2 hat2 hlt2
              have HLE2 : Hid (Le w1 w2) := Lib.hid (Below.grown' (HWX.out.alloc _) hgrow2 (Nat.le_refl _) (fun g hg => (own_row' HOX.out g hg).1))
              have HO2 := Lib.hid hown2
              have HPA2 : Hid (PAll w0 (xs ++ [(Value.slice A p.length cc), (.slice none 0 0)]) (((pcs sp l).take (k + 1)).map kvOf)) := Lib.hid (by
                rw [List.take_succ_eq_append_getElem hkl, List.map_append, List.map_cons, List.map_nil, HKV.out]
                exact HPA.out.snoc HBK.out HBV.out)
              clear hown2 hgrow2 hat2 hlt2 k1 k2
              go_wp2
              go_roundg (gk - 1)
              case measure => omega
              case rel => exact ⟨k + 1, _, by omega, by go_num, HLE2.out, HO2.out, HPA2.out, HX.out⟩
            · have ho2' : okOf (bs s) [] = false := by simpa using ho2
              have HF : Hid (pairsS l sp (bs s) = none) := Lib.hid (pairs_bad hkl HKV.out (.inr (.inr (.inr ho2'))))
              have k2 := Lib.hid (bool_call (isOf_c (.slice none 0 0) [] s WX (HBV.out.le (Le.trans HL01.out HWX.out)) hs) ho2')
              clear ho1 ho2 ho2'
              go_wp2_with fail
              refine k1.out.mono ?_
              rintro e w' ⟨rfl, rfl⟩
              go_wp2_with fail
              refine k2.out.mono ?_
              rintro e w' ⟨rfl, rfl⟩
              go_wp2
              go_ret2
              exact ⟨_, false, rfl, HLEX.out, ⟨_, _, _, rfl⟩, HF.out⟩
          · have ho1' : okOf (bs s) p = false := by simpa using ho1
            have HF : Hid (pairsS l sp (bs s) = none) := Lib.hid (pairs_bad hkl HKV.out (.inr (.inr (.inl ho1'))))
            have k1 := Lib.hid (bool_call (isOf_c (Value.slice A p.length cc) p s WX (HBK.out.le (Le.trans HL01.out HWX.out)) hs) ho1')
            clear ho1 ho1'
            go_wp2_with fail
            refine k1.out.mono ?_
            rintro e w' ⟨rfl, rfl⟩
            go_wp2
            go_ret2
            exact ⟨_, false, rfl, HLEX.out, ⟨_, _, _, rfl⟩, HF.out⟩

    · obtain rfl : k = (pcs sp l).length := by omega
      have HOK : Hid ((pcs sp l).all (kvOk (bs s)) = true) := Lib.hid (by have := HALL.out; rw [List.take_of_length_le (Nat.le_refl _)] at this; exact this)
      have HKQ : Hid (Kq (fun _ => True) wr u8 ((pcs sp l).map kvOf)) := Lib.hid (by
        have h1 := HPA.out
        rw [List.take_of_length_le (Nat.le_refl _)] at h1
        have h2 := HO.out
        rw [← List.length_map (f := kvOf)] at h2
        exact Kq.of_row h2 h1 (Le.trans HL01.out HLE.out) (by rw [List.length_map]; omega))
      have HKR : Hid (KrS w0 wr w.heap.size u8 ((pcs sp l).map kvOf)) := Lib.hid (by
        have h1 := HPA.out
        rw [List.take_of_length_le (Nat.le_refl _)] at h1
        have h2 := HO.out
        rw [← List.length_map (f := kvOf)] at h2
        exact ⟨xs, h2.mono HLE1.out.size, h1⟩)
      have HLW : Hid (Le w wr) := Lib.hid (Le.trans HLE1.out hle)
      clear hle
      go_wp2_with fail
      refine (isApart_c _ _ _ _ HKQ.out).mono ?_
      rintro e w3 ⟨rfl, hle3⟩
      have HLE3 := Lib.hid (Le.trans HLW.out hle3)
      have HKQ3 := Lib.hid (HKQ.out.le hle3)
      have HKR3 := Lib.hid (HKR.out.le hle3)
      clear hle3
      obtain ⟨r, hr⟩ : ∃ r, apB ((pcs sp l).map kvOf) = r := ⟨_, rfl⟩
      rw [hr]
      have HR := Lib.hid hr
      clear hr
      go_wp2
      go_ret2
      refine ⟨u8, r, rfl, HLE3.out, by obtain ⟨A, c, e, _⟩ := HKQ3.out; exact ⟨_, _, _, e⟩, ?_⟩
      unfold pairsS
      rw [HOK.out, HR.out]
      cases r
      · rfl
      · exact ⟨_, rfl, by rw [List.length_map]; omega, HKR3.out⟩

end Go.Proofs.YteedhaenbamiaaaGreatDoor
