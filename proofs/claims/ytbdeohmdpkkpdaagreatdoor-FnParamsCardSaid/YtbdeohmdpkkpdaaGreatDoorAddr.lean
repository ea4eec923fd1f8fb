/- Contracts: params, address, String, UriText. -/
import Derived.Test.YtbdeohmdpkkpdaaGreatDoorImplParse
import Derived.Test.YtbdeohmdpkkpdaaGreatDoorUText
set_option linter.unusedVariables false
set_option linter.unusedSimpArgs false
namespace Go.Proofs.YtbdeohmdpkkpdaaGreatDoor
open Go.RowKit

set_option maxRecDepth 4000 in
set_option maxHeartbeats 2000000 in
theorem ikv_c (φ : Nat → Prop) (w : World) (v : Value) (l : KVs) (hv : Kq φ w v l) (hl : ∀ x ∈ l, x.1.length ≤ 1099511627776 ∧ x.2.length ≤ 1099511627776) (h0 : l.length ≤ 1099511627775) :
    Calls Tryz.prog 79 #[v] w fun e w' => ∃ v', e = .returned v' ∧ Hp w' v' l ∧ w'.ownsRow w.heap.size 164 2 v' l.length (kvCells l) ∧ Le w w' := by
  obtain ⟨A, c, rfl, hc1, hc2, hln, hr⟩ := hv
  have HM := Lib.hid hl
  clear hl
  go_enter Tryz.func79, Tryz.ntmps79
  go_wp2
  go_loopg [3, 8] (l.length) (fun n sv i wr => ∃ (k : Nat), n + k = l.length ∧ i = .int .i64 k ∧ Le w wr ∧ wr.ownsRow w.heap.size 164 2 sv k (kvCells (l.take k)))
  case atStart => exact ⟨0, by omega, rfl, Le.refl w, World.ownsRow_nil _ _ _ _⟩
  case round =>
    obtain ⟨k, hn, rfl, hle, hown⟩ := hrel
    have HOWN := Lib.hid hown
    have HLE := Lib.hid hle
    have HN : gk + k ≤ l.length ∧ l.length ≤ gk + k := by omega
    clear hn hown
    by_cases hlt : k < l.length
    · obtain ⟨g, o, rfl, hg, hcells⟩ := hr (by omega)
      obtain ⟨x, y, hx, hy, hbx, hby⟩ := hcells k hlt
      have d1 := Le.cell hle hx
      have d2 := Le.cell hle hy
      clear hcells hg hr hx hy
      have hbx2 := hbx.1.le hle
      have hby2 := hby.1.le hle
      obtain ⟨A1, n1, c1, e1⟩ : ∃ A n c, x = .slice A n c := by obtain ⟨A, c, e, _⟩ := hbx2; exact ⟨A, _, c, e⟩
      obtain ⟨A2, n2, c2, e2⟩ : ∃ A n c, y = .slice A n c := by obtain ⟨A, c, e, _⟩ := hby2; exact ⟨A, _, c, e⟩
      subst e1 e2
      have q1 := conv_bs (P := Tryz.prog) Tryz.underlying22 Tryz.underlying5 Tryz.underlying9 (hbx2.le ((Le.refl wr).alloc (Obj.cells #[.slice A1 n1 c1, .slice A2 n2 c2] 47)))
      have q2 := conv_bs (P := Tryz.prog) Tryz.underlying22 Tryz.underlying5 Tryz.underlying9 (hby2.le ((Le.refl wr).alloc (Obj.cells #[.slice A1 n1 c1, .slice A2 n2 c2] 47)))
      have HSZ := Lib.hid hle.size
      have HOWN2 := Lib.hid (own_le HOWN.out ((Le.refl wr).alloc (Obj.cells #[.slice A1 n1 c1, .slice A2 n2 c2] 47)))
      clear hle hbx hby hbx2 hby2
      obtain ⟨i0, hi0, hz0, hz1, hz2⟩ := info_parts kv_info
      go_wp2_with (at_builtin; refine wpList_append_lies _ rfl _ _ 94 rfl w.heap.size 164 i0 (.agg #[.string ⟨#[]⟩, .string ⟨#[]⟩]) 2 32 Tryz.underlying94 hi0 hz0 hz1 hz2 rfl (by decide) _ _ _ rfl (HOWN2.out.alloc _) ⟨wr.heap.size + 1, 0, none⟩ 1 1 [.string (st l[k].1), .string (st l[k].2)] rfl rfl ?c1 ?c2 ?c3 ?c4 ?c5 ?c6 (wr.heap.size + 1 + 1) ?c7 ?_)
      case c1 => exact World.news_of_block (by have := heap_alloc2_new wr (Obj.cells #[.slice A1 n1 c1, .slice A2 n2 c2] 47); exact this _)
      case c2 => intro u hu; simp only [List.mem_cons, List.mem_nil_iff, or_false] at hu; rcases hu with rfl | rfl <;> rfl
      case c3 => omega
      case c4 => unfold maxLen; omega
      case c5 => omega
      case c6 => have := HSZ.out; simp; omega
      case c7 => simp
      intro g2 cap2 w2 hown2 hgrow2 hat2 hlt2
      have hrow := own_row' HOWN2.out
      have HLE3 : Hid (Le w w2) := Lib.hid (Below.grown' ((HLE.out.alloc _).alloc _) hgrow2 (Nat.le_refl _) (fun g hg => (hrow g hg).1))
      have HT : Hid (kvCells (l.take (k + 1)) = kvCells (l.take k) ++ [.string (st l[k].1), .string (st l[k].2)]) := Lib.hid (by rw [List.take_succ_eq_append_getElem hlt, kvCells_append]; rfl)
      have HOWN3 := Lib.hid hown2
      clear hown2 hgrow2 hat2 hlt2 hrow q1 q2 d1 d2
      go_wp2
      go_roundg (gk - 1)
      case measure => omega
      case rel => exact ⟨k + 1, by omega, by go_num, HLE3.out, by rw [HT.out]; exact HOWN3.out⟩
    · clear hr hle
      go_wp2
      go_ret
      have hk : l.take k = l := List.take_of_length_le (by omega)
      have h2 := HOWN.out
      rw [hk] at h2
      obtain rfl : k = l.length := by omega
      exact ⟨_, rfl, Hp.of_own h2 (by omega) HM.out, h2, HLE.out⟩
/-! ### address -/
def adS (b : Nat) (u : PU) (x : UV) : Nat → Value → World → Prop
  | 1, v, _ => v = .pointer (some ⟨b, 0, none⟩)
  | 2, v, _ => v = .pointer (some ⟨b + 1, 0, none⟩)
  | 18, v, _ => v = .pointer (some ⟨b, 0, none⟩)
  | 19, v, _ => v = x.scheme
  | 20, v, _ => v = .string (st u.scheme)
  | 21, v, _ => v = .pointer (some ⟨b, 2, none⟩)
  | 22, v, _ => v = .bool u.wild
  | 23, v, _ => v = .pointer (some ⟨b, 3, none⟩)
  | 24, v, _ => v = .bool u.slash
  | 25, v, _ => v = .pointer (some ⟨b, 4, none⟩)
  | 26, v, _ => v = x.user
  | 27, v, _ => v = .string (st u.user)
  | 28, v, _ => v = .pointer (some ⟨b, 5, none⟩)
  | 29, v, _ => v = x.pass
  | 30, v, _ => v = .string (st u.pass)
  | 31, v, _ => v = .pointer (some ⟨b, 6, none⟩)
  | 32, v, _ => v = x.host
  | 33, v, _ => v = .string (st u.host)
  | 34, v, _ => v = .pointer (some ⟨b, 7, none⟩)
  | 35, v, _ => v = .int .i64 u.port
  | 36, v, _ => v = .pointer (some ⟨b, 8, none⟩)
  | 37, v, _ => v = x.ps
  | 38, v, w => Hp w v u.ps
  | 39, v, _ => v = .pointer (some ⟨b, 9, none⟩)
  | 40, v, _ => v = x.hs
  | 41, v, w => Hp w v u.hs
  | 42, v, w => ∃ pv hv, v = .agg (u.cells pv hv) ∧ Hp w pv u.ps ∧ Hp w hv u.hs
  | _, _, _ => True
theorem adS_of (b : Nat) (u : PU) (x : UV) (t : Nat) (v : Value) (w w' : World) (k : ∀ v l, Hp w v l → Hp w' v l) (h : adS b u x t v w) : adS b u x t v w' := by
  unfold adS at h ⊢
  split at h <;> first | exact h | exact k _ _ h | skip
  · obtain ⟨pv, hv, e, h1, h2⟩ := h; exact ⟨pv, hv, e, k _ _ h1, k _ _ h2⟩
def adZ (b : Nat) (u : PU) (j : Nat) (w : World) : Prop := ∃ pv hv, w.heap[b + 1]? = some (.cells (u.cells pv hv) 128 (0, 0)) ∧ Hp w pv u.ps ∧ Hp w hv u.hs
def adG (w0 : World) (b : Nat) (x : UV) (w : World) : Prop :=
  Kp (b + 1) w0 w ∧ w.heap[b]? = some (.cells x.row 78 (0, 0)) ∧ (∃ cs, cs.size = 10 ∧ w.heap[b + 1]? = some (.cells cs 128 (0, 0)))
theorem adG_le {w0 : World} {b : Nat} {x : UV} (w w' : World) (k : Le w w') (h : adG w0 b x w) : adG w0 b x w' := by
  obtain ⟨h1, h2, cs, h3, h4⟩ := h
  exact ⟨h1.le k, k.heap h2, cs, h3, k.heap h4⟩
theorem Uq.at_ {φ : Nat → Prop} {w W : World} {x : UV} {u : PU} (h : Uq φ w x u) {o1 o2 : Obj} (k : Kp (w.heap.size + 1) ((w.alloc o1).alloc o2) W) : Uq φ W x u :=
  h.keep fun g _ hg => (k.block g (by simp; omega) (by intro e; injection e with e; omega)).trans ((Below.heap_alloc _ _ _ (by simp; omega)).trans (Below.heap_alloc _ _ _ hg))

set_option maxRecDepth 4000 in
set_option maxHeartbeats 4000000 in
theorem address_c (φ : Nat → Prop) (w : World) (x : UV) (u : PU) (hx : Uq φ w x u) (hs : u.small) (hr : u.raw = [])
    (hp : KSm 1099511627775 u.ps) (hh : KSm 1099511627775 u.hs) :
    Calls Tryz.prog 96 #[x.val] w fun e w' => ∃ pv hv, e = .returned (.agg (u.cells pv hv)) ∧ Hp w' pv u.ps ∧ Hp w' hv u.hs ∧ Le w w' := by
  have HX := Lib.hid hx
  have HS := Lib.hid hs
  have HPS := Lib.hid hp
  have HHS := Lib.hid hh
  have hW : x.wild = u.wild := hx.wild
  have hSl : x.slash = u.slash := hx.slash
  have hPo : x.port = u.port := hx.port
  have hraw : ∃ A c, x.raw = .slice A 0 c := by
    obtain ⟨⟨A, c, e, _⟩, _⟩ := hx.raw
    rw [hr] at e
    exact ⟨A, c, e⟩
  obtain ⟨Ar, cr, er⟩ := hraw
  have hone := hx.one
  obtain ⟨sA, sn, sc, es⟩ : ∃ A n c, x.scheme = .slice A n c := by obtain ⟨⟨A, c, e, _⟩, _⟩ := hx.scheme; exact ⟨A, _, c, e⟩
  obtain ⟨uA, un, uc, eu⟩ : ∃ A n c, x.user = .slice A n c := by obtain ⟨⟨A, c, e, _⟩, _⟩ := hx.user; exact ⟨A, _, c, e⟩
  obtain ⟨pA, pn, pc, ep⟩ : ∃ A n c, x.pass = .slice A n c := by obtain ⟨⟨A, c, e, _⟩, _⟩ := hx.pass; exact ⟨A, _, c, e⟩
  obtain ⟨hA, hn, hc, eh⟩ : ∃ A n c, x.host = .slice A n c := by obtain ⟨⟨A, c, e, _⟩, _⟩ := hx.host; exact ⟨A, _, c, e⟩
  obtain ⟨kA, kn, kc, ek⟩ : ∃ A n c, x.ps = .slice A n c := by obtain ⟨A, c, e, _⟩ := hx.ps; exact ⟨A, _, c, e⟩
  obtain ⟨jA, jn, jc, ej⟩ : ∃ A n c, x.hs = .slice A n c := by obtain ⟨A, c, e, _⟩ := hx.hs; exact ⟨A, _, c, e⟩
  have hval : x.val = .agg #[.slice sA sn sc, .slice Ar 0 cr, .bool u.wild, .bool u.slash, .slice uA un uc, .slice pA pn pc, .slice hA hn hc, .int .i64 u.port, .slice kA kn kc, .slice jA jn jc] := by
    unfold UV.val; rw [es, er, hW, hSl, eu, ep, eh, hPo, ek, ej]
  have hrow : Hid (x.row = #[.slice sA sn sc, .slice Ar 0 cr, .bool u.wild, .bool u.slash, .slice uA un uc, .slice pA pn pc, .slice hA hn hc, .int .i64 u.port, .slice kA kn kc, .slice jA jn jc]) := Lib.hid (by
    unfold UV.row; rw [es, er, hW, hSl, eu, ep, eh, hPo, ek, ej])
  have HE := Lib.hid (⟨es, eu, ep, eh, ek, ej⟩ : _ ∧ _ ∧ _ ∧ _ ∧ _ ∧ _)
  have HR := Lib.hid hr
  rw [hval]
  clear hval hx hs hp hh hW hSl hPo er hone es eu ep eh ek ej hr
  go_enter Tryz.func96, Tryz.ntmps96
  go_wp2
  rw [← hrow.out]
  have hm : (Tryz.prog).follows .mixedOrders = true := by kernel_rfl
  have hGl := adG_le (w0 := ((w.alloc (Obj.cells x.row 78)).alloc (Obj.cells #[.string ⟨#[]⟩, .string ⟨#[]⟩, .bool false, .bool false, .string ⟨#[]⟩, .string ⟨#[]⟩, .string ⟨#[]⟩, .int .i64 0, .slice none 0 0, .slice none 0 0] 128))) (b := w.heap.size) (x := x)
  refine wp_region_grow (adS w.heap.size u x) (adZ w.heap.size u) (adG ((w.alloc (Obj.cells x.row 78)).alloc (Obj.cells #[.string ⟨#[]⟩, .string ⟨#[]⟩, .bool false, .bool false, .string ⟨#[]⟩, .string ⟨#[]⟩, .string ⟨#[]⟩, .int .i64 0, .slice none 0 0, .slice none 0 0] 128)) w.heap.size x) 43 hm (by kernel_rfl) rfl rfl ?hG [0, 1, 2, 3, 4, 5, 6, 7, 8, 9, 10, 11, 12, 13, 14, 15, 16, 17] (by kernel_rfl) ?hold ?hs ?hend
  case hG => exact ⟨(Kp.refl _ _).le (Le.refl _).drew, heap_alloc2_old w _ _, _, by rfl, heap_alloc2_new w _ _⟩
  case hold =>
    intro t ht
    simp only [List.mem_cons, List.mem_nil_iff, or_false] at ht
    rcases ht with rfl | rfl | rfl | rfl | rfl | rfl | rfl | rfl | rfl | rfl | rfl | rfl | rfl | rfl | rfl | rfl | rfl | rfl <;> first | exact trivial | rfl
  case hs =>
    refine ⟨?_, ?_, ?_, ?_, ?_, ?_, ?_, ?_, ?_, ?_, ?_, ?_, ?_, ?_, ?_, ?_, ?_, ?_, ?_, ?_, ?_, ?_, ?_, ?_, ?_, ?_, trivial⟩
    · refine GrowStep.det ?_
      intro a W hg hop
      have h1 : a.eval (.tmp 1) = .pointer (some ⟨w.heap.size, 0, none⟩) := hop 1 (by simp [Op.operands])
      refine ⟨.pointer (some ⟨w.heap.size, 0, none⟩), ?_, rfl⟩
      simp only [execOp, h1]
      go_simp
    · refine GrowStep.det ?_
      intro a W hg hop
      have h1 : a.eval (.tmp 18) = .pointer (some ⟨w.heap.size, 0, none⟩) := hop 18 (by simp [Op.operands])
      have h2 : W.cell? ⟨w.heap.size, 0, none⟩ = some (.slice sA sn sc) := by rw [cell_cells hg.2.1 0, hrow.out]; rfl
      refine ⟨.slice sA sn sc, ?_, (show Value.slice sA sn sc = x.scheme from HE.out.1.symm)⟩
      simp only [execOp, h1]
      go_simp
    · refine GrowStep.det ?_
      intro a W hg hop
      have h0 : a.eval (.tmp 19) = x.scheme := hop 19 (by simp [Op.operands])
      have h1 := h0.trans HE.out.1
      have hq := conv_bs (P := Tryz.prog) Tryz.underlying22 Tryz.underlying5 Tryz.underlying9 (HX.out.at_ hg.1).scheme.1
      rw [HE.out.1] at hq
      refine ⟨.string (st u.scheme), ?_, rfl⟩
      simp only [execOp, h1]
      go_simp
    · refine GrowStep.det ?_
      intro a W hg hop
      have h1 : a.eval (.tmp 1) = .pointer (some ⟨w.heap.size, 0, none⟩) := hop 1 (by simp [Op.operands])
      refine ⟨.pointer (some ⟨w.heap.size, 2, none⟩), ?_, rfl⟩
      simp only [execOp, h1]
      go_simp
    · refine GrowStep.det ?_
      intro a W hg hop
      have h1 : a.eval (.tmp 21) = .pointer (some ⟨w.heap.size, 2, none⟩) := hop 21 (by simp [Op.operands])
      have h2 : W.cell? ⟨w.heap.size, 2, none⟩ = some (.bool u.wild) := by rw [cell_cells hg.2.1 2, hrow.out]; rfl
      refine ⟨.bool u.wild, ?_, rfl⟩
      simp only [execOp, h1]
      go_simp
    · refine GrowStep.det ?_
      intro a W hg hop
      have h1 : a.eval (.tmp 1) = .pointer (some ⟨w.heap.size, 0, none⟩) := hop 1 (by simp [Op.operands])
      refine ⟨.pointer (some ⟨w.heap.size, 3, none⟩), ?_, rfl⟩
      simp only [execOp, h1]
      go_simp
    · refine GrowStep.det ?_
      intro a W hg hop
      have h1 : a.eval (.tmp 23) = .pointer (some ⟨w.heap.size, 3, none⟩) := hop 23 (by simp [Op.operands])
      have h2 : W.cell? ⟨w.heap.size, 3, none⟩ = some (.bool u.slash) := by rw [cell_cells hg.2.1 3, hrow.out]; rfl
      refine ⟨.bool u.slash, ?_, rfl⟩
      simp only [execOp, h1]
      go_simp
    · refine GrowStep.det ?_
      intro a W hg hop
      have h1 : a.eval (.tmp 1) = .pointer (some ⟨w.heap.size, 0, none⟩) := hop 1 (by simp [Op.operands])
      refine ⟨.pointer (some ⟨w.heap.size, 4, none⟩), ?_, rfl⟩
      simp only [execOp, h1]
      go_simp
    · refine GrowStep.det ?_
      intro a W hg hop
      have h1 : a.eval (.tmp 25) = .pointer (some ⟨w.heap.size, 4, none⟩) := hop 25 (by simp [Op.operands])
      have h2 : W.cell? ⟨w.heap.size, 4, none⟩ = some (.slice uA un uc) := by rw [cell_cells hg.2.1 4, hrow.out]; rfl
      refine ⟨.slice uA un uc, ?_, (show Value.slice uA un uc = x.user from HE.out.2.1.symm)⟩
      simp only [execOp, h1]
      go_simp
    · refine GrowStep.det ?_
      intro a W hg hop
      have h0 : a.eval (.tmp 26) = x.user := hop 26 (by simp [Op.operands])
      have h1 := h0.trans HE.out.2.1
      have hq := conv_bs (P := Tryz.prog) Tryz.underlying22 Tryz.underlying5 Tryz.underlying9 (HX.out.at_ hg.1).user.1
      rw [HE.out.2.1] at hq
      refine ⟨.string (st u.user), ?_, rfl⟩
      simp only [execOp, h1]
      go_simp
    · refine GrowStep.det ?_
      intro a W hg hop
      have h1 : a.eval (.tmp 1) = .pointer (some ⟨w.heap.size, 0, none⟩) := hop 1 (by simp [Op.operands])
      refine ⟨.pointer (some ⟨w.heap.size, 5, none⟩), ?_, rfl⟩
      simp only [execOp, h1]
      go_simp
    · refine GrowStep.det ?_
      intro a W hg hop
      have h1 : a.eval (.tmp 28) = .pointer (some ⟨w.heap.size, 5, none⟩) := hop 28 (by simp [Op.operands])
      have h2 : W.cell? ⟨w.heap.size, 5, none⟩ = some (.slice pA pn pc) := by rw [cell_cells hg.2.1 5, hrow.out]; rfl
      refine ⟨.slice pA pn pc, ?_, (show Value.slice pA pn pc = x.pass from HE.out.2.2.1.symm)⟩
      simp only [execOp, h1]
      go_simp
    · refine GrowStep.det ?_
      intro a W hg hop
      have h0 : a.eval (.tmp 29) = x.pass := hop 29 (by simp [Op.operands])
      have h1 := h0.trans HE.out.2.2.1
      have hq := conv_bs (P := Tryz.prog) Tryz.underlying22 Tryz.underlying5 Tryz.underlying9 (HX.out.at_ hg.1).pass.1
      rw [HE.out.2.2.1] at hq
      refine ⟨.string (st u.pass), ?_, rfl⟩
      simp only [execOp, h1]
      go_simp
    · refine GrowStep.det ?_
      intro a W hg hop
      have h1 : a.eval (.tmp 1) = .pointer (some ⟨w.heap.size, 0, none⟩) := hop 1 (by simp [Op.operands])
      refine ⟨.pointer (some ⟨w.heap.size, 6, none⟩), ?_, rfl⟩
      simp only [execOp, h1]
      go_simp
    · refine GrowStep.det ?_
      intro a W hg hop
      have h1 : a.eval (.tmp 31) = .pointer (some ⟨w.heap.size, 6, none⟩) := hop 31 (by simp [Op.operands])
      have h2 : W.cell? ⟨w.heap.size, 6, none⟩ = some (.slice hA hn hc) := by rw [cell_cells hg.2.1 6, hrow.out]; rfl
      refine ⟨.slice hA hn hc, ?_, (show Value.slice hA hn hc = x.host from HE.out.2.2.2.1.symm)⟩
      simp only [execOp, h1]
      go_simp
    · refine GrowStep.det ?_
      intro a W hg hop
      have h0 : a.eval (.tmp 32) = x.host := hop 32 (by simp [Op.operands])
      have h1 := h0.trans HE.out.2.2.2.1
      have hq := conv_bs (P := Tryz.prog) Tryz.underlying22 Tryz.underlying5 Tryz.underlying9 (HX.out.at_ hg.1).host.1
      rw [HE.out.2.2.2.1] at hq
      refine ⟨.string (st u.host), ?_, rfl⟩
      simp only [execOp, h1]
      go_simp
    · refine GrowStep.det ?_
      intro a W hg hop
      have h1 : a.eval (.tmp 1) = .pointer (some ⟨w.heap.size, 0, none⟩) := hop 1 (by simp [Op.operands])
      refine ⟨.pointer (some ⟨w.heap.size, 7, none⟩), ?_, rfl⟩
      simp only [execOp, h1]
      go_simp
    · refine GrowStep.det ?_
      intro a W hg hop
      have h1 : a.eval (.tmp 34) = .pointer (some ⟨w.heap.size, 7, none⟩) := hop 34 (by simp [Op.operands])
      have h2 : W.cell? ⟨w.heap.size, 7, none⟩ = some (.int .i64 u.port) := by rw [cell_cells hg.2.1 7, hrow.out]; rfl
      refine ⟨.int .i64 u.port, ?_, rfl⟩
      simp only [execOp, h1]
      go_simp
    · refine GrowStep.det ?_
      intro a W hg hop
      have h1 : a.eval (.tmp 1) = .pointer (some ⟨w.heap.size, 0, none⟩) := hop 1 (by simp [Op.operands])
      refine ⟨.pointer (some ⟨w.heap.size, 8, none⟩), ?_, rfl⟩
      simp only [execOp, h1]
      go_simp
    · refine GrowStep.det ?_
      intro a W hg hop
      have h1 : a.eval (.tmp 36) = .pointer (some ⟨w.heap.size, 8, none⟩) := hop 36 (by simp [Op.operands])
      have h2 : W.cell? ⟨w.heap.size, 8, none⟩ = some (.slice kA kn kc) := by rw [cell_cells hg.2.1 8, hrow.out]; rfl
      refine ⟨.slice kA kn kc, ?_, (show Value.slice kA kn kc = x.ps from HE.out.2.2.2.2.1.symm)⟩
      simp only [execOp, h1]
      go_simp
    · refine GrowStep.call ?_ ?_ ?_ ?_
      · exact fun t u' w1 w2 k h => adS_of _ _ _ t u' w1 w2 (fun v l h => h.le k) h
      · exact fun j w1 w2 k ⟨pv, hv, e, h1, h2⟩ => ⟨pv, hv, k.heap e, h1.le k, h2.le k⟩
      · exact hGl
      intro a W hg hop
      have h0 : a.eval (.tmp 37) = x.ps := hop 37 (by simp [Op.operands, Call.operands])
      have h1' : a.tmps[37]?.getD undef = x.ps := by simpa [Act.eval] using h0
      refine ⟨79, #[x.ps], ?_, (ikv_c φ W x.ps u.ps (HX.out.at_ hg.1).ps HPS.out.2 HPS.out.1).mono ?_⟩
      · simp only [execOp, h0]
        go_simp
      · rintro e w' ⟨v', rfl, hk, _, hle⟩
        exact ⟨v', rfl, hle, hk⟩
    · refine GrowStep.det ?_
      intro a W hg hop
      have h1 : a.eval (.tmp 1) = .pointer (some ⟨w.heap.size, 0, none⟩) := hop 1 (by simp [Op.operands])
      refine ⟨.pointer (some ⟨w.heap.size, 9, none⟩), ?_, rfl⟩
      simp only [execOp, h1]
      go_simp
    · refine GrowStep.det ?_
      intro a W hg hop
      have h1 : a.eval (.tmp 39) = .pointer (some ⟨w.heap.size, 9, none⟩) := hop 39 (by simp [Op.operands])
      have h2 : W.cell? ⟨w.heap.size, 9, none⟩ = some (.slice jA jn jc) := by rw [cell_cells hg.2.1 9, hrow.out]; rfl
      refine ⟨.slice jA jn jc, ?_, (show Value.slice jA jn jc = x.hs from HE.out.2.2.2.2.2.symm)⟩
      simp only [execOp, h1]
      go_simp
    · refine GrowStep.call ?_ ?_ ?_ ?_
      · exact fun t u' w1 w2 k h => adS_of _ _ _ t u' w1 w2 (fun v l h => h.le k) h
      · exact fun j w1 w2 k ⟨pv, hv, e, h1, h2⟩ => ⟨pv, hv, k.heap e, h1.le k, h2.le k⟩
      · exact hGl
      intro a W hg hop
      have h0 : a.eval (.tmp 40) = x.hs := hop 40 (by simp [Op.operands, Call.operands])
      have h1' : a.tmps[40]?.getD undef = x.hs := by simpa [Act.eval] using h0
      refine ⟨79, #[x.hs], ?_, (ikv_c φ W x.hs u.hs (HX.out.at_ hg.1).hs HHS.out.2 HHS.out.1).mono ?_⟩
      · simp only [execOp, h0]
        go_simp
      · rintro e w' ⟨v', rfl, hk, _, hle⟩
        exact ⟨v', rfl, hle, hk⟩
    · refine GrowStep.det ?_
      intro a W hg hop
      have k20 : a.eval (.tmp 20) = .string (st u.scheme) := hop 20 (by simp [Op.operands])
      have d20 : a.tmps[20]?.getD undef = .string (st u.scheme) := by simpa [Act.eval] using k20
      have k22 : a.eval (.tmp 22) = .bool u.wild := hop 22 (by simp [Op.operands])
      have d22 : a.tmps[22]?.getD undef = .bool u.wild := by simpa [Act.eval] using k22
      have k24 : a.eval (.tmp 24) = .bool u.slash := hop 24 (by simp [Op.operands])
      have d24 : a.tmps[24]?.getD undef = .bool u.slash := by simpa [Act.eval] using k24
      have k27 : a.eval (.tmp 27) = .string (st u.user) := hop 27 (by simp [Op.operands])
      have d27 : a.tmps[27]?.getD undef = .string (st u.user) := by simpa [Act.eval] using k27
      have k30 : a.eval (.tmp 30) = .string (st u.pass) := hop 30 (by simp [Op.operands])
      have d30 : a.tmps[30]?.getD undef = .string (st u.pass) := by simpa [Act.eval] using k30
      have k33 : a.eval (.tmp 33) = .string (st u.host) := hop 33 (by simp [Op.operands])
      have d33 : a.tmps[33]?.getD undef = .string (st u.host) := by simpa [Act.eval] using k33
      have k35 : a.eval (.tmp 35) = .int .i64 u.port := hop 35 (by simp [Op.operands])
      have d35 : a.tmps[35]?.getD undef = .int .i64 u.port := by simpa [Act.eval] using k35
      have k38 : Hp W (a.eval (.tmp 38)) u.ps := hop 38 (by simp [Op.operands])
      obtain ⟨A38, c38, e38, _⟩ := id k38
      rw [e38] at k38
      have d38 : a.tmps[38]?.getD undef = .slice A38 u.ps.length c38 := by simpa [Act.eval] using e38
      have k41 : Hp W (a.eval (.tmp 41)) u.hs := hop 41 (by simp [Op.operands])
      obtain ⟨A41, c41, e41, _⟩ := id k41
      rw [e41] at k41
      have d41 : a.tmps[41]?.getD undef = .slice A41 u.hs.length c41 := by simpa [Act.eval] using e41
      refine ⟨_, ?_, ⟨_, _, rfl, k38, k41⟩⟩
      clear k20 k22 k24 k27 k30 k33 k35 k38 k41 e38 e41
      have hr0 := HR.out
      simp only [execOp]
      go_simp
      (try unfold PU.cells; rw [hr0]; rfl)
    · refine GrowStep.store ?_ rfl
      intro a W hg hop
      have h1 : a.eval (.tmp 2) = .pointer (some ⟨w.heap.size + 1, 0, none⟩) := hop 2 (by simp [Op.operands])
      obtain ⟨pv, hv, h2, hp1, hp2⟩ : ∃ pv hv, a.eval (.tmp 42) = .agg (u.cells pv hv) ∧ Hp W pv u.ps ∧ Hp W hv u.hs := hop 42 (by simp [Op.operands])
      obtain ⟨h3, h4, cs, h5, h6⟩ := hg
      have hk := kp_setRow W (w.heap.size + 1) (u.cells pv hv)
      have hone : (u.cells pv hv).all (·.oneCell') = true := by
        obtain ⟨A, c, rfl, _⟩ := hp1
        obtain ⟨A', c', rfl, _⟩ := hp2
        unfold PU.cells
        simp only [List.all_toArray, List.all_cons, List.all_nil]
        rfl
      have hkp : ∀ v l, Hp W v l → Hp (W.setRow (w.heap.size + 1) (u.cells pv hv)) v l := fun v l h => h.kp hk h6 (by decide)
      refine ⟨W.setRow (w.heap.size + 1) (u.cells pv hv), ?_, ⟨h3.trans hk, (setRow_other W _ _ _ (by omega)).trans h4, u.cells pv hv, rfl, setRow_heap W _ _ _ _ _ h6⟩, fun t v hv => adS_of _ _ _ t v W _ hkp hv, ?_, pv, hv, setRow_heap W _ _ _ _ _ h6, hkp _ _ hp1, hkp _ _ hp2⟩
      · have hs := run_storeVar_row (P := Tryz.prog) W (w.heap.size + 1) 128 128 cs (u.cells pv hv) h6 sip_size h5 hone
        simp only [execOp, h1, h2, Instr.storeAt, Instr.sureAddr, Sem.run_bind, Sem.run_pure, Result.andThen, hs]
      · intro j _ _
        exact ⟨pv, hv, setRow_heap W _ _ _ _ _ h6, hkp _ _ hp1, hkp _ _ hp2⟩
  case hend =>
    intro a' w' hg hd hn hS hZ
    obtain ⟨pv, hv, hx1, hp1, hp2⟩ := hZ 25 _ rfl rfl
    have h2 : a'.eval (.tmp 2) = .pointer (some ⟨w.heap.size + 1, 0, none⟩) := hS 2 (by decide)
    have HG := Lib.hid hg
    clear hS hZ hg
    go_wp2
    (try simp only [Exit.inBlock, Exit.then])
    refine bodyPost_ret (results_cell_row rfl _ _ (w.heap.size + 1) 128 _ (0, 0) _ h2 hx1 Tryz.underlying128 rfl sip_size) hd ?_
    refine ⟨pv, hv, rfl, hp1, hp2, HG.out.1.os, HG.out.1.tape, HG.out.1.output, by have := HG.out.1.size; simp at this; omega, fun k hk => ?_⟩
    exact (HG.out.1.block k (by simp; omega) (by intro e; injection e with e; omega)).trans ((Below.heap_alloc _ _ _ (by simp; omega)).trans (Below.heap_alloc _ _ _ hk))
end Go.Proofs.YtbdeohmdpkkpdaaGreatDoor
