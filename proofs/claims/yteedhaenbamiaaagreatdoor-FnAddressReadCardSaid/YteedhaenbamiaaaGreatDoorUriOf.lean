/- Contracts: the laws' kvsOf, uriOf, isUriOf, agrees (printed by gen_uriof.py). -/
import Derived.Test.YteedhaenbamiaaaGreatDoorSpWc
import Derived.Test.YteedhaenbamiaaaGreatDoorSame
import Derived.Test.YteedhaenbamiaaaGreatDoorPlace
set_option linter.unusedVariables false
set_option linter.unusedSimpArgs false
namespace Go.Proofs.YteedhaenbamiaaaGreatDoor
open Go.RowKit

theorem Bv.oneU {w : World} {v : Value} {l : Tx} (h : Bv w v l) : v.oneCell' = true := by obtain ⟨A, c, rfl, _⟩ := h; rfl
theorem KrS.shapeU {w0 w : World} {base : Nat} {v : Value} {l : KVs} (h : KrS w0 w base v l) : ∃ A c, v = .slice A l.length c := by
  obtain ⟨xs, h1, _⟩ := h
  rcases h1.2 with ⟨rfl, hn⟩ | ⟨g, cap, cur, rfl, _⟩
  · exact ⟨none, 0, by rw [hn]⟩
  · exact ⟨_, _, rfl⟩
theorem KrS.oneU {w0 w : World} {base : Nat} {v : Value} {l : KVs} (h : KrS w0 w base v l) : v.oneCell' = true := by obtain ⟨A, c, rfl⟩ := h.shapeU; rfl
set_option maxRecDepth 4000 in
set_option maxHeartbeats 2000000 in
theorem kvsOf_c (φ : Nat → Prop) (v : Value) (l : KVs) (w0 w : World) (h0 : Le w0 w) (hv : Kq φ w0 v l) : Calls Tryz.prog 38 #[v] w fun e w' => ∃ v', e = .returned v' ∧ KrS w0 w' w.heap.size v' l ∧ Le w w' := by
  have HV := Lib.hid hv
  have H0 := Lib.hid h0
  obtain ⟨A, cc, rfl, hc1, hc2, hc3, _⟩ := hv
  clear h0
  obtain ⟨i0, hi0, hz0, hz1, hz2⟩ := info_parts skv_info
  go_enter Tryz.func38, Tryz.ntmps38
  go_wp2
  go_loopg [3, 4] (l.length) (fun n sv i wr => ∃ (k : Nat) (xs : List Value), n + k = l.length ∧ i = .int .i64 k ∧ Le w wr ∧ wr.ownsRow w.heap.size 103 2 sv k xs ∧ PAll w0 xs (l.take k))
  case atStart => exact ⟨0, [], by omega, rfl, Le.refl w, World.ownsRow_nil _ _ _ _, PAll.nil _⟩
  case round =>
    obtain ⟨k, xs, hn, rfl, hle, hown, hpa⟩ := hrel
    have HO := Lib.hid hown
    have HLE := Lib.hid hle
    have HPA := Lib.hid hpa
    have HN : gk + k ≤ l.length ∧ l.length ≤ gk + k := by omega
    have hsz := hle.size
    clear hn hown hpa
    by_cases hkl : k < l.length
    · obtain ⟨g, o, rfl, x, y, d1, d2, X, Y⟩ := HV.out.at_ hkl
      have d1 := (Le.trans H0.out hle).cell d1
      have d2 := (Le.trans H0.out hle).cell d2
      have hx1 := X.out.oneU
      have hy1 := Y.out.oneU
      clear hle
      go_wp2_with ((at_builtin; refine wpList_append_lies _ rfl _ _ 34 rfl w.heap.size 103 i0 (.agg #[.slice none 0 0, .slice none 0 0]) 2 48 Tryz.underlying34 hi0 hz0 hz1 hz2 rfl (by decide) _ _ _ rfl (HO.out.alloc _) ⟨wr.heap.size, 0, none⟩ 1 1 [x, y] rfl rfl ?c1 ?c2 ?c3 ?c4 ?c5 ?c6 (wr.heap.size + 1) ?c7 ?_))
      case c1 => exact World.news_of_block (heap_alloc_new wr _)
      case c2 => intro u hu; simp only [List.mem_cons, List.mem_nil_iff, or_false] at hu; rcases hu with rfl | rfl <;> assumption
      case c3 => omega
      case c4 => unfold maxLen; omega
      case c5 => omega
      case c6 => simp; omega
      case c7 => simp
      intro g2 cap2 w2 hown2 hgrow2 hat2 hlt2
      have HLE2 : Hid (Le w w2) := Lib.hid (Below.grown' (HLE.out.alloc _) hgrow2 (Nat.le_refl _) (fun g hg => (own_row' HO.out g hg).1))
      have HO2 := Lib.hid hown2
      have HPA2 : Hid (PAll w0 (xs ++ [x, y]) (l.take (k + 1))) := Lib.hid (by
        rw [List.take_succ_eq_append_getElem hkl]
        exact HPA.out.snoc X.out Y.out)
      clear hown2 hgrow2 hat2 hlt2 d1 d2
      go_wp2
      go_roundg (gk - 1)
      case measure => omega
      case rel => exact ⟨k + 1, _, by omega, by go_num, HLE2.out, HO2.out, HPA2.out⟩
    · obtain rfl : k = l.length := by omega
      have HKR : Hid (KrS w0 wr w.heap.size u3 l) := Lib.hid ⟨xs, HO.out, by have h := HPA.out; rw [List.take_of_length_le (Nat.le_refl _)] at h; exact h⟩
      clear hle
      go_wp2
      go_ret
      exact ⟨_, rfl, HKR.out, HLE.out⟩

def uoR (x : UV) (pv hv : Value) : Array Value := #[x.scheme, x.raw, .bool x.wild, .bool x.slash, x.user, x.pass, x.host, .int .i64 x.port, pv, hv]
theorem spu_sizeU : ((Tryz.prog).info? 36).map (·.size) = some 10 := by kernel_rfl
theorem uoR_one {φ : Nat → Prop} {w : World} {x : UV} {u : PU} (h : Uq φ w x u) {pv hv : Value} (h1 : pv.oneCell' = true) (h2 : hv.oneCell' = true) : (uoR x pv hv).all (·.oneCell') = true := by
  unfold uoR
  simp only [List.all_toArray, List.all_cons, List.all_nil, h.scheme.one, h.raw.one, h.user.one, h.pass.one, h.host.one, h1, h2]
  rfl
theorem KrS.monoU {w0 w : World} {base base' : Nat} {v : Value} {l : KVs} (h : KrS w0 w base v l) (k : base' ≤ base) : KrS w0 w base' v l := by
  obtain ⟨xs, h1, h2⟩ := h; exact ⟨xs, h1.mono k, h2⟩
def uoS (w : World) (x : UV) (u : PU) : Nat → Value → World → Prop
  | 1, v, _ => v = .pointer (some ⟨w.heap.size, 0, none⟩)
  | 2, v, _ => v = .pointer (some ⟨w.heap.size + 1, 0, none⟩)
  | 3, v, _ => v = (.pointer (some ⟨w.heap.size, 0, none⟩))
  | 4, v, _ => v = x.scheme
  | 5, v, _ => v = (.pointer (some ⟨w.heap.size, 1, none⟩))
  | 6, v, _ => v = x.raw
  | 7, v, _ => v = (.pointer (some ⟨w.heap.size, 2, none⟩))
  | 8, v, _ => v = .bool x.wild
  | 9, v, _ => v = (.pointer (some ⟨w.heap.size, 3, none⟩))
  | 10, v, _ => v = .bool x.slash
  | 11, v, _ => v = (.pointer (some ⟨w.heap.size, 4, none⟩))
  | 12, v, _ => v = x.user
  | 13, v, _ => v = (.pointer (some ⟨w.heap.size, 5, none⟩))
  | 14, v, _ => v = x.pass
  | 15, v, _ => v = (.pointer (some ⟨w.heap.size, 6, none⟩))
  | 16, v, _ => v = x.host
  | 17, v, _ => v = (.pointer (some ⟨w.heap.size, 7, none⟩))
  | 18, v, _ => v = .int .i64 x.port
  | 19, v, _ => v = (.pointer (some ⟨w.heap.size, 8, none⟩))
  | 20, v, _ => v = x.ps
  | 21, v, W => KrS w W (w.heap.size + 2) v u.ps
  | 22, v, _ => v = (.pointer (some ⟨w.heap.size, 9, none⟩))
  | 23, v, _ => v = x.hs
  | 24, v, W => KrS w W (w.heap.size + 2) v u.hs
  | 25, v, W => ∃ pv hv, v = .agg (uoR x pv hv) ∧ KrS w W (w.heap.size + 2) pv u.ps ∧ KrS w W (w.heap.size + 2) hv u.hs
  | _, _, _ => True
theorem uoS_le (w : World) (x : UV) (u : PU) (t : Nat) (v : Value) (w1 w2 : World) (k : Le w1 w2) (h : uoS w x u t v w1) : uoS w x u t v w2 := by
  unfold uoS at h ⊢
  split at h <;> first | exact h | exact h.le k | (obtain ⟨a1, a2, e, b1, b2⟩ := h; exact ⟨a1, a2, e, b1.le k, b2.le k⟩)
def uoG (w : World) (x : UV) (W : World) : Prop := Le w W ∧ W.heap[w.heap.size]? = some (.cells x.row 32 (0, 0)) ∧ ∃ cs : Array Value, cs.size = 10 ∧ W.heap[w.heap.size + 1]? = some (.cells cs 36 (0, 0))
def uoZ (w : World) (x : UV) (u : PU) (_ : Nat) (W : World) : Prop := ∃ pv hv, W.heap[w.heap.size + 1]? = some (.cells (uoR x pv hv) 36 (0, 0)) ∧ KrS w W (w.heap.size + 2) pv u.ps ∧ KrS w W (w.heap.size + 2) hv u.hs
theorem uoZ_le (w : World) (x : UV) (u : PU) (j : Nat) (w1 w2 : World) (k : Le w1 w2) (h : uoZ w x u j w1) : uoZ w x u j w2 := by
  obtain ⟨pv, hv, h1, h2, h3⟩ := h; exact ⟨pv, hv, k.heap h1, h2.le k, h3.le k⟩
set_option maxRecDepth 4000 in
set_option maxHeartbeats 8000000 in
theorem uriOf_c (φ : Nat → Prop) (w : World) (x : UV) (u : PU) (hx : Uq φ w x u) (hpl : u.ps.length ≤ 1099511627776) (hhl : u.hs.length ≤ 1099511627776) :
    Calls Tryz.prog 13 #[x.val] w fun e w' => ∃ y : UV, e = .returned y.val ∧ Uq (fun _ => True) w' y u ∧ Le w w' := by
  have HX := Lib.hid hx
  have hval : Hid (x.val = .agg #[x.scheme, x.raw, .bool x.wild, .bool x.slash, x.user, x.pass, x.host, .int .i64 x.port, x.ps, x.hs]) := Lib.hid rfl
  clear hx
  rw [hval.out]
  go_enter Tryz.func13, Tryz.ntmps13
  go_wp2
  have hm : (Tryz.prog).follows .mixedOrders = true := by kernel_rfl
  have hGl : ∀ w1 w2, Le w1 w2 → uoG w x w1 → uoG w x w2 := fun w1 w2 k h => ⟨Le.trans h.1 k, k.heap h.2.1, by obtain ⟨cs, h1, h2⟩ := h.2.2; exact ⟨cs, h1, k.heap h2⟩⟩
  refine wp_region_grow_put (uoS w x u) (uoZ w x u) (uoG w x) 26 [3, 4, 5, 6, 7, 8, 9, 10, 11, 12, 13, 14, 15, 16, 17, 18, 19, 20, 21, 22, 23, 24, 25] hm (by kernel_rfl) rfl rfl ?hG ?hold ?hs ?hend
  case hG => exact ⟨(((Le.refl w).alloc _).alloc _).drew, heap_alloc2_old w _ _, _, rfl, heap_alloc2_new w _ _⟩
  case hold =>
    intro t ht
    simp only [List.mem_cons, List.mem_nil_iff, or_false, not_or] at ht
    unfold uoS
    split <;> first | rfl | trivial | (exfalso; simp at ht)
  case hs =>
    refine ⟨?_, ?_, ?_, ?_, ?_, ?_, ?_, ?_, ?_, ?_, ?_, ?_, ?_, ?_, ?_, ?_, ?_, ?_, ?_, ?_, ?_, ?_, ?_, ?_, trivial⟩
    · refine GrowStep.det ?_
      intro a W hg hop
      have h0 : a.eval (.tmp 1) = (.pointer (some ⟨w.heap.size, 0, none⟩)) := (hop 1 (by simp [Op.operands, Call.operands]))
      have h0' : a.tmps[1]?.getD undef = (.pointer (some ⟨w.heap.size, 0, none⟩)) := by simpa [Act.eval] using h0
      refine ⟨(.pointer (some ⟨w.heap.size, 0, none⟩)), ?_, rfl⟩
      simp only [execOp, h0]
      go_simp
    · refine GrowStep.det ?_
      intro a W hg hop
      have h0 : a.eval (.tmp 3) = (.pointer (some ⟨w.heap.size, 0, none⟩)) := (hop 3 (by simp [Op.operands, Call.operands]))
      have h0' : a.tmps[3]?.getD undef = (.pointer (some ⟨w.heap.size, 0, none⟩)) := by simpa [Act.eval] using h0
      have c1 : W.cell? ⟨w.heap.size, 0, none⟩ = some (x.scheme) := by rw [cell_cells hg.2.1 0]; rfl
      refine ⟨(x.scheme), ?_, rfl⟩
      simp only [execOp, h0]
      go_simp
    · refine GrowStep.det ?_
      intro a W hg hop
      have h0 : a.eval (.tmp 1) = (.pointer (some ⟨w.heap.size, 0, none⟩)) := (hop 1 (by simp [Op.operands, Call.operands]))
      have h0' : a.tmps[1]?.getD undef = (.pointer (some ⟨w.heap.size, 0, none⟩)) := by simpa [Act.eval] using h0
      refine ⟨(.pointer (some ⟨w.heap.size, 1, none⟩)), ?_, rfl⟩
      simp only [execOp, h0]
      go_simp
    · refine GrowStep.det ?_
      intro a W hg hop
      have h0 : a.eval (.tmp 5) = (.pointer (some ⟨w.heap.size, 1, none⟩)) := (hop 5 (by simp [Op.operands, Call.operands]))
      have h0' : a.tmps[5]?.getD undef = (.pointer (some ⟨w.heap.size, 1, none⟩)) := by simpa [Act.eval] using h0
      have c1 : W.cell? ⟨w.heap.size, 1, none⟩ = some (x.raw) := by rw [cell_cells hg.2.1 1]; rfl
      refine ⟨(x.raw), ?_, rfl⟩
      simp only [execOp, h0]
      go_simp
    · refine GrowStep.det ?_
      intro a W hg hop
      have h0 : a.eval (.tmp 1) = (.pointer (some ⟨w.heap.size, 0, none⟩)) := (hop 1 (by simp [Op.operands, Call.operands]))
      have h0' : a.tmps[1]?.getD undef = (.pointer (some ⟨w.heap.size, 0, none⟩)) := by simpa [Act.eval] using h0
      refine ⟨(.pointer (some ⟨w.heap.size, 2, none⟩)), ?_, rfl⟩
      simp only [execOp, h0]
      go_simp
    · refine GrowStep.det ?_
      intro a W hg hop
      have h0 : a.eval (.tmp 7) = (.pointer (some ⟨w.heap.size, 2, none⟩)) := (hop 7 (by simp [Op.operands, Call.operands]))
      have h0' : a.tmps[7]?.getD undef = (.pointer (some ⟨w.heap.size, 2, none⟩)) := by simpa [Act.eval] using h0
      have c1 : W.cell? ⟨w.heap.size, 2, none⟩ = some (.bool x.wild) := by rw [cell_cells hg.2.1 2]; rfl
      refine ⟨(.bool x.wild), ?_, rfl⟩
      simp only [execOp, h0]
      go_simp
    · refine GrowStep.det ?_
      intro a W hg hop
      have h0 : a.eval (.tmp 1) = (.pointer (some ⟨w.heap.size, 0, none⟩)) := (hop 1 (by simp [Op.operands, Call.operands]))
      have h0' : a.tmps[1]?.getD undef = (.pointer (some ⟨w.heap.size, 0, none⟩)) := by simpa [Act.eval] using h0
      refine ⟨(.pointer (some ⟨w.heap.size, 3, none⟩)), ?_, rfl⟩
      simp only [execOp, h0]
      go_simp
    · refine GrowStep.det ?_
      intro a W hg hop
      have h0 : a.eval (.tmp 9) = (.pointer (some ⟨w.heap.size, 3, none⟩)) := (hop 9 (by simp [Op.operands, Call.operands]))
      have h0' : a.tmps[9]?.getD undef = (.pointer (some ⟨w.heap.size, 3, none⟩)) := by simpa [Act.eval] using h0
      have c1 : W.cell? ⟨w.heap.size, 3, none⟩ = some (.bool x.slash) := by rw [cell_cells hg.2.1 3]; rfl
      refine ⟨(.bool x.slash), ?_, rfl⟩
      simp only [execOp, h0]
      go_simp
    · refine GrowStep.det ?_
      intro a W hg hop
      have h0 : a.eval (.tmp 1) = (.pointer (some ⟨w.heap.size, 0, none⟩)) := (hop 1 (by simp [Op.operands, Call.operands]))
      have h0' : a.tmps[1]?.getD undef = (.pointer (some ⟨w.heap.size, 0, none⟩)) := by simpa [Act.eval] using h0
      refine ⟨(.pointer (some ⟨w.heap.size, 4, none⟩)), ?_, rfl⟩
      simp only [execOp, h0]
      go_simp
    · refine GrowStep.det ?_
      intro a W hg hop
      have h0 : a.eval (.tmp 11) = (.pointer (some ⟨w.heap.size, 4, none⟩)) := (hop 11 (by simp [Op.operands, Call.operands]))
      have h0' : a.tmps[11]?.getD undef = (.pointer (some ⟨w.heap.size, 4, none⟩)) := by simpa [Act.eval] using h0
      have c1 : W.cell? ⟨w.heap.size, 4, none⟩ = some (x.user) := by rw [cell_cells hg.2.1 4]; rfl
      refine ⟨(x.user), ?_, rfl⟩
      simp only [execOp, h0]
      go_simp
    · refine GrowStep.det ?_
      intro a W hg hop
      have h0 : a.eval (.tmp 1) = (.pointer (some ⟨w.heap.size, 0, none⟩)) := (hop 1 (by simp [Op.operands, Call.operands]))
      have h0' : a.tmps[1]?.getD undef = (.pointer (some ⟨w.heap.size, 0, none⟩)) := by simpa [Act.eval] using h0
      refine ⟨(.pointer (some ⟨w.heap.size, 5, none⟩)), ?_, rfl⟩
      simp only [execOp, h0]
      go_simp
    · refine GrowStep.det ?_
      intro a W hg hop
      have h0 : a.eval (.tmp 13) = (.pointer (some ⟨w.heap.size, 5, none⟩)) := (hop 13 (by simp [Op.operands, Call.operands]))
      have h0' : a.tmps[13]?.getD undef = (.pointer (some ⟨w.heap.size, 5, none⟩)) := by simpa [Act.eval] using h0
      have c1 : W.cell? ⟨w.heap.size, 5, none⟩ = some (x.pass) := by rw [cell_cells hg.2.1 5]; rfl
      refine ⟨(x.pass), ?_, rfl⟩
      simp only [execOp, h0]
      go_simp
    · refine GrowStep.det ?_
      intro a W hg hop
      have h0 : a.eval (.tmp 1) = (.pointer (some ⟨w.heap.size, 0, none⟩)) := (hop 1 (by simp [Op.operands, Call.operands]))
      have h0' : a.tmps[1]?.getD undef = (.pointer (some ⟨w.heap.size, 0, none⟩)) := by simpa [Act.eval] using h0
      refine ⟨(.pointer (some ⟨w.heap.size, 6, none⟩)), ?_, rfl⟩
      simp only [execOp, h0]
      go_simp
    · refine GrowStep.det ?_
      intro a W hg hop
      have h0 : a.eval (.tmp 15) = (.pointer (some ⟨w.heap.size, 6, none⟩)) := (hop 15 (by simp [Op.operands, Call.operands]))
      have h0' : a.tmps[15]?.getD undef = (.pointer (some ⟨w.heap.size, 6, none⟩)) := by simpa [Act.eval] using h0
      have c1 : W.cell? ⟨w.heap.size, 6, none⟩ = some (x.host) := by rw [cell_cells hg.2.1 6]; rfl
      refine ⟨(x.host), ?_, rfl⟩
      simp only [execOp, h0]
      go_simp
    · refine GrowStep.det ?_
      intro a W hg hop
      have h0 : a.eval (.tmp 1) = (.pointer (some ⟨w.heap.size, 0, none⟩)) := (hop 1 (by simp [Op.operands, Call.operands]))
      have h0' : a.tmps[1]?.getD undef = (.pointer (some ⟨w.heap.size, 0, none⟩)) := by simpa [Act.eval] using h0
      refine ⟨(.pointer (some ⟨w.heap.size, 7, none⟩)), ?_, rfl⟩
      simp only [execOp, h0]
      go_simp
    · refine GrowStep.det ?_
      intro a W hg hop
      have h0 : a.eval (.tmp 17) = (.pointer (some ⟨w.heap.size, 7, none⟩)) := (hop 17 (by simp [Op.operands, Call.operands]))
      have h0' : a.tmps[17]?.getD undef = (.pointer (some ⟨w.heap.size, 7, none⟩)) := by simpa [Act.eval] using h0
      have c1 : W.cell? ⟨w.heap.size, 7, none⟩ = some (.int .i64 x.port) := by rw [cell_cells hg.2.1 7]; rfl
      refine ⟨(.int .i64 x.port), ?_, rfl⟩
      simp only [execOp, h0]
      go_simp
    · refine GrowStep.det ?_
      intro a W hg hop
      have h0 : a.eval (.tmp 1) = (.pointer (some ⟨w.heap.size, 0, none⟩)) := (hop 1 (by simp [Op.operands, Call.operands]))
      have h0' : a.tmps[1]?.getD undef = (.pointer (some ⟨w.heap.size, 0, none⟩)) := by simpa [Act.eval] using h0
      refine ⟨(.pointer (some ⟨w.heap.size, 8, none⟩)), ?_, rfl⟩
      simp only [execOp, h0]
      go_simp
    · refine GrowStep.det ?_
      intro a W hg hop
      have h0 : a.eval (.tmp 19) = (.pointer (some ⟨w.heap.size, 8, none⟩)) := (hop 19 (by simp [Op.operands, Call.operands]))
      have h0' : a.tmps[19]?.getD undef = (.pointer (some ⟨w.heap.size, 8, none⟩)) := by simpa [Act.eval] using h0
      have c1 : W.cell? ⟨w.heap.size, 8, none⟩ = some (x.ps) := by rw [cell_cells hg.2.1 8]; rfl
      refine ⟨(x.ps), ?_, rfl⟩
      simp only [execOp, h0]
      go_simp
    · refine GrowStep.call ?_ ?_ ?_ ?_
      · exact fun t v w1 w2 k h => uoS_le w x u t v w1 w2 k h
      · exact fun j w1 w2 k h => uoZ_le w x u j w1 w2 k h
      · exact hGl
      intro a W hg hop
      have h0 : a.eval (.tmp 20) = x.ps := (hop 20 (by simp [Op.operands, Call.operands]))
      have h0' : a.tmps[20]?.getD undef = x.ps := by simpa [Act.eval] using h0
      have hz := hg.2.2
      refine ⟨38, #[x.ps], ?_, (kvsOf_c φ x.ps u.ps w W hg.1 HX.out.ps).mono ?_⟩
      · simp only [execOp, h0]
        go_simp
      · rintro e w' ⟨v', rfl, hk, hle⟩; exact ⟨v', rfl, hle, KrS.monoU hk (by obtain ⟨cs, _, h⟩ := hz; have := lt_of_heap h; omega)⟩
    · refine GrowStep.det ?_
      intro a W hg hop
      have h0 : a.eval (.tmp 1) = (.pointer (some ⟨w.heap.size, 0, none⟩)) := (hop 1 (by simp [Op.operands, Call.operands]))
      have h0' : a.tmps[1]?.getD undef = (.pointer (some ⟨w.heap.size, 0, none⟩)) := by simpa [Act.eval] using h0
      refine ⟨(.pointer (some ⟨w.heap.size, 9, none⟩)), ?_, rfl⟩
      simp only [execOp, h0]
      go_simp
    · refine GrowStep.det ?_
      intro a W hg hop
      have h0 : a.eval (.tmp 22) = (.pointer (some ⟨w.heap.size, 9, none⟩)) := (hop 22 (by simp [Op.operands, Call.operands]))
      have h0' : a.tmps[22]?.getD undef = (.pointer (some ⟨w.heap.size, 9, none⟩)) := by simpa [Act.eval] using h0
      have c1 : W.cell? ⟨w.heap.size, 9, none⟩ = some (x.hs) := by rw [cell_cells hg.2.1 9]; rfl
      refine ⟨(x.hs), ?_, rfl⟩
      simp only [execOp, h0]
      go_simp
    · refine GrowStep.call ?_ ?_ ?_ ?_
      · exact fun t v w1 w2 k h => uoS_le w x u t v w1 w2 k h
      · exact fun j w1 w2 k h => uoZ_le w x u j w1 w2 k h
      · exact hGl
      intro a W hg hop
      have h0 : a.eval (.tmp 23) = x.hs := (hop 23 (by simp [Op.operands, Call.operands]))
      have h0' : a.tmps[23]?.getD undef = x.hs := by simpa [Act.eval] using h0
      have hz := hg.2.2
      refine ⟨38, #[x.hs], ?_, (kvsOf_c φ x.hs u.hs w W hg.1 HX.out.hs).mono ?_⟩
      · simp only [execOp, h0]
        go_simp
      · rintro e w' ⟨v', rfl, hk, hle⟩; exact ⟨v', rfl, hle, KrS.monoU hk (by obtain ⟨cs, _, h⟩ := hz; have := lt_of_heap h; omega)⟩
    · refine GrowStep.det ?_
      intro a W hg hop
      have h0 : a.eval (.tmp 4) = (x.scheme) := (hop 4 (by simp [Op.operands, Call.operands]))
      have h0' : a.tmps[4]?.getD undef = (x.scheme) := by simpa [Act.eval] using h0
      have h1 : a.eval (.tmp 6) = (x.raw) := (hop 6 (by simp [Op.operands, Call.operands]))
      have h1' : a.tmps[6]?.getD undef = (x.raw) := by simpa [Act.eval] using h1
      have h2 : a.eval (.tmp 8) = (.bool x.wild) := (hop 8 (by simp [Op.operands, Call.operands]))
      have h2' : a.tmps[8]?.getD undef = (.bool x.wild) := by simpa [Act.eval] using h2
      have h3 : a.eval (.tmp 10) = (.bool x.slash) := (hop 10 (by simp [Op.operands, Call.operands]))
      have h3' : a.tmps[10]?.getD undef = (.bool x.slash) := by simpa [Act.eval] using h3
      have h4 : a.eval (.tmp 12) = (x.user) := (hop 12 (by simp [Op.operands, Call.operands]))
      have h4' : a.tmps[12]?.getD undef = (x.user) := by simpa [Act.eval] using h4
      have h5 : a.eval (.tmp 14) = (x.pass) := (hop 14 (by simp [Op.operands, Call.operands]))
      have h5' : a.tmps[14]?.getD undef = (x.pass) := by simpa [Act.eval] using h5
      have h6 : a.eval (.tmp 16) = (x.host) := (hop 16 (by simp [Op.operands, Call.operands]))
      have h6' : a.tmps[16]?.getD undef = (x.host) := by simpa [Act.eval] using h6
      have h7 : a.eval (.tmp 18) = (.int .i64 x.port) := (hop 18 (by simp [Op.operands, Call.operands]))
      have h7' : a.tmps[18]?.getD undef = (.int .i64 x.port) := by simpa [Act.eval] using h7
      have k1 : KrS w W (w.heap.size + 2) (a.eval (.tmp 21)) u.ps := (hop 21 (by simp [Op.operands, Call.operands]))
      have k2 : KrS w W (w.heap.size + 2) (a.eval (.tmp 24)) u.hs := (hop 24 (by simp [Op.operands, Call.operands]))
      generalize hy1 : a.eval (.tmp 21) = y1 at k1
      generalize hy2 : a.eval (.tmp 24) = y2 at k2
      have hy1' : a.tmps[21]?.getD undef = y1 := by simpa [Act.eval] using hy1
      have hy2' : a.tmps[24]?.getD undef = y2 := by simpa [Act.eval] using hy2
      refine ⟨.agg (uoR x y1 y2), ?_, y1, y2, rfl, k1, k2⟩
      unfold uoR
      obtain ⟨A1, c1, e1⟩ := k1.shapeU
      obtain ⟨A2, c2, e2⟩ := k2.shapeU
      obtain ⟨_, _, q0, _⟩ := bv_slice HX.out.scheme.1
      obtain ⟨_, _, q1, _⟩ := bv_slice HX.out.raw.1
      obtain ⟨_, _, q2, _⟩ := bv_slice HX.out.user.1
      obtain ⟨_, _, q3, _⟩ := bv_slice HX.out.pass.1
      obtain ⟨_, _, q4, _⟩ := bv_slice HX.out.host.1
      rw [q0] at h0 h0' ⊢
      rw [q1] at h1 h1' ⊢
      rw [q2] at h4 h4' ⊢
      rw [q3] at h5 h5' ⊢
      rw [q4] at h6 h6' ⊢
      subst e1 e2
      simp only [execOp, h0, h1, h2, h3, h4, h5, h6, h7, hy1, hy2]
      go_simp
    · refine GrowStep.store ?_ rfl
      intro a W hg hop
      have h1 : a.eval (.tmp 2) = .pointer (some ⟨w.heap.size + 1, 0, none⟩) := hop 2 (by simp [Op.operands])
      obtain ⟨pv, hv, h2, k1, k2⟩ : ∃ pv hv, a.eval (.tmp 25) = .agg (uoR x pv hv) ∧ KrS w W (w.heap.size + 2) pv u.ps ∧ KrS w W (w.heap.size + 2) hv u.hs := hop 25 (by simp [Op.operands])
      obtain ⟨h3, h4, cs, h5, h6⟩ := hg
      have hk := kp_setRow W (w.heap.size + 1) (uoR x pv hv)
      have hone : (uoR x pv hv).all (·.oneCell') = true := uoR_one HX.out k1.oneU k2.oneU
      have hst := run_storeVar_row (P := Tryz.prog) W (w.heap.size + 1) 36 36 cs (uoR x pv hv) h6 spu_sizeU h5 hone
      have hkr : ∀ v l, KrS w W (w.heap.size + 2) v l → KrS w (W.setRow (w.heap.size + 1) (uoR x pv hv)) (w.heap.size + 2) v l := fun v l h => h.kp hk (by omega)
      refine ⟨W.setRow (w.heap.size + 1) (uoR x pv hv), ?_, ⟨Below.trans h3 (hk.below (by omega) h3.size), hk.heap (by omega) h4, _, rfl, setRow_heap W _ _ _ _ _ h6⟩, fun t v hh => ?_, fun _ _ h => ⟨pv, hv, setRow_heap W _ _ _ _ _ h6, hkr _ _ k1, hkr _ _ k2⟩, ⟨pv, hv, setRow_heap W _ _ _ _ _ h6, hkr _ _ k1, hkr _ _ k2⟩⟩
      · simp only [execOp, h1, h2, Instr.storeAt, Instr.sureAddr, Sem.run_bind, Sem.run_pure, Result.andThen, hst]
      · unfold uoS at hh ⊢
        split at hh <;> first | exact hh | exact hkr _ _ hh | (obtain ⟨a1, a2, e, b1, b2⟩ := hh; exact ⟨a1, a2, e, hkr _ _ b1, hkr _ _ b2⟩)
  case hend =>
    intro v WX hg hS hZ
    obtain ⟨pv, hv, hb, k1, k2⟩ := hZ 23 _ rfl rfl
    have HB := Lib.hid hb
    have K1 := Lib.hid k1
    have K2 := Lib.hid k2
    have HLE := Lib.hid hg.1
    clear hS hZ hg hb k1 k2
    simp only [putsL, Act.put, List.setIfInBounds_toArray, List.set_cons_zero, List.set_cons_succ]
    go_wp2
    refine bodyPost_ret (results_cell_row rfl _ _ (w.heap.size + 1) 36 _ (0, 0) _ rfl HB.out Tryz.underlying36 rfl spu_sizeU) rfl ?_
    exact ⟨⟨x.scheme, x.raw, x.wild, x.slash, x.user, x.pass, x.host, x.port, pv, hv⟩, rfl, ⟨⟨HX.out.scheme.1.le HLE.out, fun _ _ => trivial⟩, ⟨HX.out.raw.1.le HLE.out, fun _ _ => trivial⟩, HX.out.wild, HX.out.slash, ⟨HX.out.user.1.le HLE.out, fun _ _ => trivial⟩, ⟨HX.out.pass.1.le HLE.out, fun _ _ => trivial⟩, ⟨HX.out.host.1.le HLE.out, fun _ _ => trivial⟩, HX.out.port, K1.out.kq HLE.out hpl, K2.out.kq HLE.out hhl⟩, HLE.out⟩

theorem agrees_c (ok same : Bool) (kd : Int) (r : Bool) (w : World) (h : (if kd = -2 then true else if kd = 0 then ok && same else !ok) = r) (hk : kd = -2 ∨ kd = 0 ∨ kd = -1) :
    Calls Tryz.prog 35 #[.bool ok, .int .i64 kd, .bool same] w fun e w' => e = .returned (.bool r) ∧ w = w' := by
  subst h
  rcases hk with rfl | rfl | rfl
  · go_enter Tryz.func35, Tryz.ntmps35
    go_wp2
    go_ret
    exact ⟨rfl, rfl⟩
  · cases ok <;>
    · go_enter Tryz.func35, Tryz.ntmps35
      go_wp2
      go_ret
      exact ⟨rfl, rfl⟩
  · go_enter Tryz.func35, Tryz.ntmps35
    go_wp2
    go_ret
    exact ⟨rfl, rfl⟩

end Go.Proofs.YteedhaenbamiaaaGreatDoor
