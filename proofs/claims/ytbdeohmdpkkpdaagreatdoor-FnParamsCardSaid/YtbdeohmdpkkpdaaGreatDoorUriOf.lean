/- Contracts: the laws' kvsOf, uriOf, isUriOf, agrees (printed by gen_uriof.py). -/
import Derived.Test.YtbdeohmdpkkpdaaGreatDoorSpW7
import Derived.Test.YtbdeohmdpkkpdaaGreatDoorSame
import Derived.Test.YtbdeohmdpkkpdaaGreatDoorPlace
set_option linter.unusedVariables false
set_option linter.unusedSimpArgs false
namespace Go.Proofs.YtbdeohmdpkkpdaaGreatDoor
open Go.RowKit

theorem Bv.oneU {w : World} {v : Value} {l : Tx} (h : Bv w v l) : v.oneCell' = true := by obtain ⟨A, c, rfl, _⟩ := h; rfl
theorem KrS.shapeU {w0 w : World} {base : Nat} {v : Value} {l : KVs} (h : KrS w0 w base v l) : ∃ A c, v = .slice A l.length c := by
  obtain ⟨xs, h1, _⟩ := h
  rcases h1.2 with ⟨rfl, hn⟩ | ⟨g, cap, cur, rfl, _⟩
  · exact ⟨none, 0, by rw [hn]⟩
  · exact ⟨_, _, rfl⟩
theorem KrS.oneU {w0 w : World} {base : Nat} {v : Value} {l : KVs} (h : KrS w0 w base v l) : v.oneCell' = true := by obtain ⟨A, c, rfl⟩ := h.shapeU; rfl
set_option maxRecDepth 4000 in
set_option maxHeartbeats 2000000 in
theorem kvsOf_c (φ : Nat → Prop) (v : Value) (l : KVs) (w0 w : World) (h0 : Le w0 w) (hv : Kq φ w0 v l) : Calls Tryz.prog 29 #[v] w fun e w' => ∃ v', e = .returned v' ∧ KrS w0 w' w.heap.size v' l ∧ Le w w' := by
  have HV := Lib.hid hv
  have H0 := Lib.hid h0
  obtain ⟨A, cc, rfl, hc1, hc2, hc3, _⟩ := hv
  clear h0
  obtain ⟨i0, hi0, hz0, hz1, hz2⟩ := info_parts skv_info
  go_enter Tryz.func29, Tryz.ntmps29
  go_wp2
  go_loopg [3, 4] (l.length) (fun n sv i wr => ∃ (k : Nat) (xs : List Value), n + k = l.length ∧ i = .int .i64 k ∧ Le w wr ∧ wr.ownsRow w.heap.size 107 2 sv k xs ∧ PAll w0 xs (l.take k))
  case atStart => exact ⟨0, [], by omega, rfl, Le.refl w, World.ownsRow_nil _ _ _ _, PAll.nil _⟩
  case round =>
    obtain ⟨k, xs, hn, rfl, hle, hown, hpa⟩ := hrel
    have HO := Lib.hid hown
    have HLE := Lib.hid hle
    have HPA := Lib.hid hpa
    have HN : gk + k ≤ l.length ∧ l.length ≤ gk + k := by omega
    have hsz := hle.size
    clear hn hown hpa
    by_cases hkl : k < l.length
    · obtain ⟨g, o, rfl, x, y, d1, d2, X, Y⟩ := HV.out.at_ hkl
      have d1 := (Le.trans H0.out hle).cell d1
      have d2 := (Le.trans H0.out hle).cell d2
      have hx1 := X.out.oneU
      have hy1 := Y.out.oneU
      clear hle
      go_wp2_with ((at_builtin; refine wpList_append_lies _ rfl _ _ 38 rfl w.heap.size 107 i0 (.agg #[.slice none 0 0, .slice none 0 0]) 2 48 Tryz.underlying38 hi0 hz0 hz1 hz2 rfl (by decide) _ _ _ rfl (HO.out.alloc _) ⟨wr.heap.size, 0, none⟩ 1 1 [x, y] rfl rfl ?c1 ?c2 ?c3 ?c4 ?c5 ?c6 (wr.heap.size + 1) ?c7 ?_))
      case c1 => exact World.news_of_block (heap_alloc_new wr _)
      case c2 => intro u hu; simp only [List.mem_cons, List.mem_nil_iff, or_false] at hu; rcases hu with rfl | rfl <;> assumption
      case c3 => omega
      case c4 => unfold maxLen; omega
      case c5 => omega
      case c6 => simp; omega
      case c7 => simp
      intro g2 cap2 w2 hown2 hgrow2 hat2 hlt2
      have HLE2 : Hid (Le w w2) := Lib.hid (Below.grown' (HLE.out.alloc _) hgrow2 (Nat.le_refl _) (fun g hg => (own_row' HO.out g hg).1))
      have HO2 := Lib.hid hown2
      have HPA2 : Hid (PAll w0 (xs ++ [x, y]) (l.take (k + 1))) := Lib.hid (by
        rw [List.take_succ_eq_append_getElem hkl]
        exact HPA.out.snoc X.out Y.out)
      clear hown2 hgrow2 hat2 hlt2 d1 d2
      go_wp2
      go_roundg (gk - 1)
      case measure => omega
      case rel => exact ⟨k + 1, _, by omega, by go_num, HLE2.out, HO2.out, HPA2.out⟩
    · obtain rfl : k = l.length := by omega
      have HKR : Hid (KrS w0 wr w.heap.size u3 l) := Lib.hid ⟨xs, HO.out, by have h := HPA.out; rw [List.take_of_length_le (Nat.le_refl _)] at h; exact h⟩
      clear hle
      go_wp2
      go_ret
      exact ⟨_, rfl, HKR.out, HLE.out⟩

def uoR (x : UV) (pv hv : Value) : Array Value := #[x.scheme, x.raw, .bool x.wild, .bool x.slash, x.user, x.pass, x.host, .int .i64 x.port, pv, hv]
theorem uoR_one {φ : Nat → Prop} {w : World} {x : UV} {u : PU} (h : Uq φ w x u) {pv hv : Value} (h1 : pv.oneCell' = true) (h2 : hv.oneCell' = true) : (uoR x pv hv).all (·.oneCell') = true := by
  unfold uoR
  simp only [List.all_toArray, List.all_cons, List.all_nil, h.scheme.one, h.raw.one, h.user.one, h.pass.one, h.host.one, h1, h2]
  rfl
theorem KrS.monoU {w0 w : World} {base base' : Nat} {v : Value} {l : KVs} (h : KrS w0 w base v l) (k : base' ≤ base) : KrS w0 w base' v l := by
  obtain ⟨xs, h1, h2⟩ := h; exact ⟨xs, h1.mono k, h2⟩
def uoS (w : World) (x : UV) (u : PU) : Nat → Value → World → Prop
  | 1, v, _ => v = .pointer (some ⟨w.heap.size, 0, none⟩)
  | 2, v, _ => v = .pointer (some ⟨w.heap.size + 1, 0, none⟩)
  | 3, v, _ => v = (.pointer (some ⟨w.heap.size, 0, none⟩))
  | 4, v, _ => v = x.scheme
  | 5, v, _ => v = (.pointer (some ⟨w.heap.size, 1, none⟩))
  | 6, v, _ => v = x.raw
  | 7, v, _ => v = (.pointer (some ⟨w.heap.size, 2, none⟩))
  | 8, v, _ => v = .bool x.wild
  | 9, v, _ => v = (.pointer (some ⟨w.heap.size, 3, none⟩))
  | 10, v, _ => v = .bool x.slash
  | 11, v, _ => v = (.pointer (some ⟨w.heap.size, 4, none⟩))
  | 12, v, _ => v = x.user
  | 13, v, _ => v = (.pointer (some ⟨w.heap.size, 5, none⟩))
  | 14, v, _ => v = x.pass
  | 15, v, _ => v = (.pointer (some ⟨w.heap.size, 6, none⟩))
  | 16, v, _ => v = x.host
  | 17, v, _ => v = (.pointer (some ⟨w.heap.size, 7, none⟩))
  | 18, v, _ => v = .int .i64 x.port
  | 19, v, _ => v = (.pointer (some ⟨w.heap.size, 8, none⟩))
  | 20, v, _ => v = x.ps
  | 21, v, W => KrS w W (w.heap.size + 2) v u.ps
  | 22, v, _ => v = (.pointer (some ⟨w.heap.size, 9, none⟩))
  | 23, v, _ => v = x.hs
  | 24, v, W => KrS w W (w.heap.size + 2) v u.hs
  | 25, v, W => ∃ pv hv, v = .agg (uoR x pv hv) ∧ KrS w W (w.heap.size + 2) pv u.ps ∧ KrS w W (w.heap.size + 2) hv u.hs
  | _, _, _ => True
theorem uoS_le (w : World) (x : UV) (u : PU) (t : Nat) (v : Value) (w1 w2 : World) (k : Le w1 w2) (h : uoS w x u t v w1) : uoS w x u t v w2 := by
  unfold uoS at h ⊢
  split at h <;> first | exact h | exact h.le k | (obtain ⟨a1, a2, e, b1, b2⟩ := h; exact ⟨a1, a2, e, b1.le k, b2.le k⟩)
end Go.Proofs.YtbdeohmdpkkpdaaGreatDoor
