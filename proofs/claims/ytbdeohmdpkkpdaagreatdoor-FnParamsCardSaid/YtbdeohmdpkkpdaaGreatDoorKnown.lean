/- Contracts: the laws' uri, sameKVs, sameUri, known. -/
import Derived.Test.YtbdeohmdpkkpdaaGreatDoorHead2
import Derived.Lib.SmallJoins
set_option linter.unusedVariables false
set_option linter.unusedSimpArgs false
namespace Go.Proofs.YtbdeohmdpkkpdaaGreatDoor
open Go.RowKit

def uri4 (user host : Tx) (port : Int) : PU := ⟨sSip, [], false, false, user, [], host, port, [], []⟩
/-- ten stores into a block of ten cells -/
theorem set10 {W : World} {b : Nat} {T : TypeId} {a0 a1 a2 a3 a4 a5 a6 a7 a8 a9 : Value} (hb : W.heap[b]? = some (.cells #[a0, a1, a2, a3, a4, a5, a6, a7, a8, a9] T (0, 0))) (v0 v1 v2 v3 v4 v5 v6 v7 v8 v9 : Value) :
    ∃ W', W' = ((((((((((W.setCell ⟨b, 0, none⟩ v0).setCell ⟨b, 1, none⟩ v1).setCell ⟨b, 2, none⟩ v2).setCell ⟨b, 3, none⟩ v3).setCell ⟨b, 4, none⟩ v4).setCell ⟨b, 5, none⟩ v5).setCell ⟨b, 6, none⟩ v6).setCell ⟨b, 7, none⟩ v7).setCell ⟨b, 8, none⟩ v8).setCell ⟨b, 9, none⟩ v9) ∧ W'.heap[b]? = some (.cells #[v0, v1, v2, v3, v4, v5, v6, v7, v8, v9] T (0, 0)) ∧ Kp b W W' := by
  have h0 : (W.setCell ⟨b, 0, none⟩ v0).heap[b]? = some (.cells #[v0, a1, a2, a3, a4, a5, a6, a7, a8, a9] T (0, 0)) := heap_set hb 0 v0
  have h1 : ((W.setCell ⟨b, 0, none⟩ v0).setCell ⟨b, 1, none⟩ v1).heap[b]? = some (.cells #[v0, v1, a2, a3, a4, a5, a6, a7, a8, a9] T (0, 0)) := heap_set h0 1 v1
  have h2 : (((W.setCell ⟨b, 0, none⟩ v0).setCell ⟨b, 1, none⟩ v1).setCell ⟨b, 2, none⟩ v2).heap[b]? = some (.cells #[v0, v1, v2, a3, a4, a5, a6, a7, a8, a9] T (0, 0)) := heap_set h1 2 v2
  have h3 : ((((W.setCell ⟨b, 0, none⟩ v0).setCell ⟨b, 1, none⟩ v1).setCell ⟨b, 2, none⟩ v2).setCell ⟨b, 3, none⟩ v3).heap[b]? = some (.cells #[v0, v1, v2, v3, a4, a5, a6, a7, a8, a9] T (0, 0)) := heap_set h2 3 v3
  have h4 : (((((W.setCell ⟨b, 0, none⟩ v0).setCell ⟨b, 1, none⟩ v1).setCell ⟨b, 2, none⟩ v2).setCell ⟨b, 3, none⟩ v3).setCell ⟨b, 4, none⟩ v4).heap[b]? = some (.cells #[v0, v1, v2, v3, v4, a5, a6, a7, a8, a9] T (0, 0)) := heap_set h3 4 v4
  have h5 : ((((((W.setCell ⟨b, 0, none⟩ v0).setCell ⟨b, 1, none⟩ v1).setCell ⟨b, 2, none⟩ v2).setCell ⟨b, 3, none⟩ v3).setCell ⟨b, 4, none⟩ v4).setCell ⟨b, 5, none⟩ v5).heap[b]? = some (.cells #[v0, v1, v2, v3, v4, v5, a6, a7, a8, a9] T (0, 0)) := heap_set h4 5 v5
  have h6 : (((((((W.setCell ⟨b, 0, none⟩ v0).setCell ⟨b, 1, none⟩ v1).setCell ⟨b, 2, none⟩ v2).setCell ⟨b, 3, none⟩ v3).setCell ⟨b, 4, none⟩ v4).setCell ⟨b, 5, none⟩ v5).setCell ⟨b, 6, none⟩ v6).heap[b]? = some (.cells #[v0, v1, v2, v3, v4, v5, v6, a7, a8, a9] T (0, 0)) := heap_set h5 6 v6
  have h7 : ((((((((W.setCell ⟨b, 0, none⟩ v0).setCell ⟨b, 1, none⟩ v1).setCell ⟨b, 2, none⟩ v2).setCell ⟨b, 3, none⟩ v3).setCell ⟨b, 4, none⟩ v4).setCell ⟨b, 5, none⟩ v5).setCell ⟨b, 6, none⟩ v6).setCell ⟨b, 7, none⟩ v7).heap[b]? = some (.cells #[v0, v1, v2, v3, v4, v5, v6, v7, a8, a9] T (0, 0)) := heap_set h6 7 v7
  have h8 : (((((((((W.setCell ⟨b, 0, none⟩ v0).setCell ⟨b, 1, none⟩ v1).setCell ⟨b, 2, none⟩ v2).setCell ⟨b, 3, none⟩ v3).setCell ⟨b, 4, none⟩ v4).setCell ⟨b, 5, none⟩ v5).setCell ⟨b, 6, none⟩ v6).setCell ⟨b, 7, none⟩ v7).setCell ⟨b, 8, none⟩ v8).heap[b]? = some (.cells #[v0, v1, v2, v3, v4, v5, v6, v7, v8, a9] T (0, 0)) := heap_set h7 8 v8
  have h9 : ((((((((((W.setCell ⟨b, 0, none⟩ v0).setCell ⟨b, 1, none⟩ v1).setCell ⟨b, 2, none⟩ v2).setCell ⟨b, 3, none⟩ v3).setCell ⟨b, 4, none⟩ v4).setCell ⟨b, 5, none⟩ v5).setCell ⟨b, 6, none⟩ v6).setCell ⟨b, 7, none⟩ v7).setCell ⟨b, 8, none⟩ v8).setCell ⟨b, 9, none⟩ v9).heap[b]? = some (.cells #[v0, v1, v2, v3, v4, v5, v6, v7, v8, v9] T (0, 0)) := heap_set h8 9 v9
  exact ⟨_, rfl, h9, (((((((((((Kp.refl b W).set 0 _).set 1 _).set 2 _).set 3 _).set 4 _).set 5 _).set 6 _).set 7 _).set 8 _).set 9 _)⟩
set_option maxRecDepth 4000 in
set_option maxHeartbeats 4000000 in
theorem uri_c (w : World) (s1 s2 : ByteArray) (p : Int) (h1 : s1.size ≤ 1099511627776) (h2 : s2.size ≤ 1099511627776) :
    Calls Tryz.prog 48 #[.string s1, .string s2, .int .i64 p] w fun e w' => ∃ x : UV, e = .returned x.val ∧ Uq (w.heap.size ≤ ·) w' x (uri4 (bs s1) (bs s2) p) ∧ Le w w' := by
  go_enter Tryz.func48, Tryz.ntmps48
  have qc := Joins.run_convert_bytes_const_at (P := Tryz.prog) (w.alloc (Obj.cells #[.slice none 0 0, .slice none 0 0, .bool false, .bool false, .slice none 0 0, .slice none 0 0, .slice none 0 0, .int .i64 0, .slice none 0 0, .slice none 0 0] 78)) 22 5 #[.int .u8 115, .int .u8 105, .int .u8 112] 3 3 (w.heap.size + 1) (by simp) Tryz.underlying22 Tryz.underlying5
  obtain ⟨B2, c2, W2, q2, le2, bt2⟩ := conv_mk (base := w.heap.size + 1) ((w.alloc (Obj.cells #[.slice none 0 0, .slice none 0 0, .bool false, .bool false, .slice none 0 0, .slice none 0 0, .slice none 0 0, .int .i64 0, .slice none 0 0, .slice none 0 0] 78)).alloc (Obj.cells #[.int .u8 115, .int .u8 105, .int .u8 112] 5 (3, 4))) s1 (by simp) (by omega)
  obtain ⟨B3, c3, W3, q3, le3, bt3⟩ := conv_mk (base := w.heap.size + 1) W2 s2 (by have := le2.size; simp at this; omega) (by omega)
  have hle3 : Le ((w.alloc (Obj.cells #[.slice none 0 0, .slice none 0 0, .bool false, .bool false, .slice none 0 0, .slice none 0 0, .slice none 0 0, .int .i64 0, .slice none 0 0, .slice none 0 0] 78)).alloc (Obj.cells #[.int .u8 115, .int .u8 105, .int .u8 112] 5 (3, 4))) W3 := Le.trans le2 le3
  have hb : W3.heap[w.heap.size]? = some (.cells #[.slice none 0 0, .slice none 0 0, .bool false, .bool false, .slice none 0 0, .slice none 0 0, .slice none 0 0, .int .i64 0, .slice none 0 0, .slice none 0 0] 78 (0, 0)) := Le.heap hle3 (heap_alloc2_old w _ _)
  have hs : W3.heap[w.heap.size + 1]? = some (.cells #[.int .u8 115, .int .u8 105, .int .u8 112] 5 (3, 4)) := Le.heap hle3 (heap_alloc2_new w _ _)
  have y0 : W3.cell? ⟨w.heap.size, 0, none⟩ = some (.slice none 0 0) := cell_cells hb 0
  have z0 : W3.frozen? ⟨w.heap.size, 0, none⟩ = false := frozen_cells hb 0
  have y1 : W3.cell? ⟨w.heap.size, 1, none⟩ = some (.slice none 0 0) := cell_cells hb 1
  have z1 : W3.frozen? ⟨w.heap.size, 1, none⟩ = false := frozen_cells hb 1
  have y2 : W3.cell? ⟨w.heap.size, 2, none⟩ = some (.bool false) := cell_cells hb 2
  have z2 : W3.frozen? ⟨w.heap.size, 2, none⟩ = false := frozen_cells hb 2
  have y3 : W3.cell? ⟨w.heap.size, 3, none⟩ = some (.bool false) := cell_cells hb 3
  have z3 : W3.frozen? ⟨w.heap.size, 3, none⟩ = false := frozen_cells hb 3
  have y4 : W3.cell? ⟨w.heap.size, 4, none⟩ = some (.slice none 0 0) := cell_cells hb 4
  have z4 : W3.frozen? ⟨w.heap.size, 4, none⟩ = false := frozen_cells hb 4
  have y5 : W3.cell? ⟨w.heap.size, 5, none⟩ = some (.slice none 0 0) := cell_cells hb 5
  have z5 : W3.frozen? ⟨w.heap.size, 5, none⟩ = false := frozen_cells hb 5
  have y6 : W3.cell? ⟨w.heap.size, 6, none⟩ = some (.slice none 0 0) := cell_cells hb 6
  have z6 : W3.frozen? ⟨w.heap.size, 6, none⟩ = false := frozen_cells hb 6
  have y7 : W3.cell? ⟨w.heap.size, 7, none⟩ = some (.int .i64 0) := cell_cells hb 7
  have z7 : W3.frozen? ⟨w.heap.size, 7, none⟩ = false := frozen_cells hb 7
  have y8 : W3.cell? ⟨w.heap.size, 8, none⟩ = some (.slice none 0 0) := cell_cells hb 8
  have z8 : W3.frozen? ⟨w.heap.size, 8, none⟩ = false := frozen_cells hb 8
  have y9 : W3.cell? ⟨w.heap.size, 9, none⟩ = some (.slice none 0 0) := cell_cells hb 9
  have z9 : W3.frozen? ⟨w.heap.size, 9, none⟩ = false := frozen_cells hb 9
  have HB := Lib.hid hb
  have HS := Lib.hid hs
  have HL3 := Lib.hid hle3
  have HB2 := Lib.hid (bt2.le le3)
  have HB3 := Lib.hid bt3
  clear hb hs hle3 le2 le3 bt2 bt3
  have HLE : Hid (Le w W3) := Lib.hid (Le.trans (((Le.refl w).alloc _).alloc _) HL3.out)
  go_wp2
  obtain ⟨W4, hW4, h4, k4⟩ := set10 HB.out (.slice (some ⟨w.heap.size + 1, 0, none⟩) 3 3) (.slice none 0 0) (.bool false) (.bool false) (.slice (some ⟨B2, 0, none⟩) s1.size c2) (.slice none 0 0) (.slice (some ⟨B3, 0, none⟩) s2.size c3) (.int .i64 p) (.slice none 0 0) (.slice none 0 0)
  rw [← hW4]
  clear hW4
  refine bodyPost_ret (results_cell_row rfl _ _ w.heap.size 78 _ (0, 0) _ rfl h4 Tryz.underlying78 rfl uri_size) rfl ?_
  refine ⟨⟨.slice (some ⟨w.heap.size + 1, 0, none⟩) 3 3, .slice none 0 0, false, false, .slice (some ⟨B2, 0, none⟩) s1.size c2, .slice none 0 0, .slice (some ⟨B3, 0, none⟩) s2.size c3, p, .slice none 0 0, .slice none 0 0⟩, rfl, ?_, Below.trans HLE.out (k4.below (Nat.le_refl _) HLE.out.size)⟩
  have f1 : Bq (w.heap.size + 1 ≤ ·) W3 (.slice (some ⟨w.heap.size + 1, 0, none⟩) 3 3) sSip := by
    refine ⟨⟨_, 3, rfl, by decide, by decide, by decide, fun _ => ⟨w.heap.size + 1, 0, rfl, fun j hj => ?_⟩⟩, fun g hg => ?_⟩
    · have e := cell_cells HS.out (0 + j)
      rw [e]
      match j, hj with
      | 0, _ => rfl
      | 1, _ => rfl
      | 2, _ => rfl
    · simp only [Value.ownBlock, Option.some.injEq] at hg; omega
  have f2 : Bq (w.heap.size + 1 ≤ ·) W3 (.slice (some ⟨B2, 0, none⟩) s1.size c2) (bs s1) := ⟨HB2.out.1, fun g h => (HB2.out.2 g h).1⟩
  have f3 : Bq (w.heap.size + 1 ≤ ·) W3 (.slice (some ⟨B3, 0, none⟩) s2.size c3) (bs s2) := ⟨HB3.out.1, fun g h => (HB3.out.2 g h).1⟩
  have hw : ∀ g, w.heap.size + 1 ≤ g → w.heap.size ≤ g := fun g h => by omega
  exact Uq.imp (φ := (w.heap.size + 1 ≤ ·)) (Uq.keep (w := W3) ⟨f1, Bq.nil _ _, rfl, rfl, f2, Bq.nil _ _, f3, rfl, Kq.nil _ _, Kq.nil _ _⟩ (fun g hg hlt => k4.block g hlt (by intro e; injection e with e; omega))) hw

/-! ### pairs that are equal -/
theorem Kq.at_ {φ : Nat → Prop} {w : World} {A : Option Addr} {n c : Nat} {l : KVs} (h : Kq φ w (.slice A n c) l) {k : Nat} (hk : k < l.length) :
    ∃ g o, A = some ⟨g, o, none⟩ ∧ ∃ x y, w.cell? ⟨g, o + k * 2, none⟩ = some x ∧ w.cell? ⟨g, o + k * 2 + 1, none⟩ = some y ∧ Hid (Bv w x l[k].1) ∧ Hid (Bv w y l[k].2) := by
  obtain ⟨A', c', e, h1, h2, h3, h4⟩ := h
  injection e with e1 e2 e3
  subst e1
  obtain ⟨g, o, rfl, _, hc⟩ := h4 (by omega)
  obtain ⟨x, y, hx, hy, hx2, hy2⟩ := hc k hk
  exact ⟨g, o, rfl, x, y, hx, hy, Lib.hid hx2.1, Lib.hid hy2.1⟩
theorem Bv.dn {w : World} {v : Value} {l : Tx} (h : Bv w v l) (n : Nat) : Bv (w.drewN n) v l := h.le ((Le.refl w).drewN n)
theorem kv_take_succ (a b : KVs) (k : Nat) (h : a.take k = b.take k) (ha : k < a.length) (hb : k < b.length) (he : a[k] = b[k]) : a.take (k + 1) = b.take (k + 1) := by
  rw [List.take_succ_eq_append_getElem ha, List.take_succ_eq_append_getElem hb, h, he]
theorem equal_b (w : World) (x y : Value) (lx ly : Tx) (b : Bool) (h : decide (lx = ly) = b) (hx : Bv w x lx) (hy : Bv w y ly) :
    Calls Tryz.prog 19 #[x, y] w fun e w' => e = .returned (.bool b) ∧ ∃ m, w' = w.drewN m := by
  subst h
  exact equal_c w x y lx ly hx hy
set_option maxRecDepth 4000 in
set_option maxHeartbeats 2000000 in
theorem sameKVs_c (φ ψ : Nat → Prop) (w : World) (a b : Value) (la lb : KVs) (ha : Kq φ w a la) (hb : Kq ψ w b lb) :
    Calls Tryz.prog 34 #[a, b] w fun e w' => e = .returned (.bool (decide (la = lb))) ∧ Dr w w' := by
  have ha0 := Lib.hid ha
  have hb0 := Lib.hid hb
  obtain ⟨A, c, rfl, h1, h2, h3, _⟩ := ha
  obtain ⟨B, d, rfl, k1, k2, k3, _⟩ := hb
  by_cases hl : la.length = lb.length
  · have E1 : ((la.length : Int) != (lb.length : Int)) = false := by simp [hl]
    have E2 := Lib.hid hl
    clear hl
    go_enter Tryz.func34, Tryz.ntmps34
    go_wp2
    go_loopg [5] (la.length) (fun n i wr => ∃ k : Nat, n + k = la.length ∧ i = .int .i64 k ∧ Dr w wr ∧ la.take k = lb.take k)
    case atStart => exact ⟨0, by omega, rfl, Dr.refl _, rfl⟩
    case round =>
      obtain ⟨k, hn, rfl, hd, ht⟩ := hrel
      have HT := Lib.hid ht
      have HD := Lib.hid hd
      have HN : gk + k ≤ la.length ∧ la.length ≤ gk + k := by omega
      clear ht hn
      by_cases hlt : k < la.length
      · have hlt2 : k < lb.length := by have := E2.out; omega
        obtain ⟨b1, o1, rfl, x1, x2, d1, d2, X1, X2⟩ := (ha0.out.le hd.le).at_ hlt
        obtain ⟨b2, o2, rfl, y1, y2, e1, e2, Y1, Y2⟩ := (hb0.out.le hd.le).at_ hlt2
        clear hd
        by_cases hk : la[k].1 = lb[k].1
        · have Ht1 := Lib.hid (decide_eq_true hk)
          by_cases hv : la[k].2 = lb[k].2
          · have Ht2 := Lib.hid (decide_eq_true hv)
            have HF : Hid (la.take (k + 1) = lb.take (k + 1)) := Lib.hid (kv_take_succ _ _ _ HT.out hlt hlt2 (Prod.ext hk hv))
            clear hk hv
            go_wp2
            go_quiet ((first | (go_at_call 19; exact Calls.quiet_of (equal_b _ _ _ _ _ _ Ht1.out (X1.out.dn _) (Y1.out.dn _))) | (go_at_call 19; exact Calls.quiet_of (equal_b _ _ _ _ _ _ Ht2.out (X2.out.dn _) (Y2.out.dn _)))))
            go_wp2
            go_roundg (gk - 1)
            case measure => omega
            case rel => exact ⟨k + 1, by omega, by go_num, HD.out.step _, HF.out⟩
          · have Hf2 := Lib.hid (decide_eq_false hv)
            have HF : Hid (decide (la = lb) = false) := Lib.hid (decide_eq_false (by rintro rfl; exact hv rfl))
            clear hk hv
            go_wp2
            go_quiet ((first | (go_at_call 19; exact Calls.quiet_of (equal_b _ _ _ _ _ _ Ht1.out (X1.out.dn _) (Y1.out.dn _))) | (go_at_call 19; exact Calls.quiet_of (equal_b _ _ _ _ _ _ Hf2.out (X2.out.dn _) (Y2.out.dn _)))))
            go_wp2
            go_ret
            exact ⟨by rw [HF.out]; rfl, HD.out.step _⟩
        · have Hf1 := Lib.hid (decide_eq_false hk)
          have HF : Hid (decide (la = lb) = false) := Lib.hid (decide_eq_false (by rintro rfl; exact hk rfl))
          clear hk
          go_wp2
          go_quiet ((go_at_call 19; exact Calls.quiet_of (equal_b _ _ _ _ _ _ Hf1.out (X1.out.dn _) (Y1.out.dn _))))
          go_wp2
          go_ret
          exact ⟨by rw [HF.out]; rfl, HD.out.step _⟩
      · have HF : Hid (decide (la = lb) = true) := Lib.hid (decide_eq_true (by
          have e1 := List.take_of_length_le (i := k) (l := la) (by omega)
          have e2 := List.take_of_length_le (i := k) (l := lb) (by have := E2.out; omega)
          rw [← e1, ← e2, HT.out]))
        clear hd
        go_wp2
        go_ret
        exact ⟨by rw [HF.out]; rfl, HD.out⟩
  · have E1 : ((la.length : Int) != (lb.length : Int)) = true := by simp; omega
    have E2 : decide (la = lb) = false := decide_eq_false (by intro h; exact hl (by rw [h]))
    rw [E2]
    clear hl E2
    go_enter Tryz.func34, Tryz.ntmps34
    go_wp2
    go_ret
    exact ⟨rfl, Dr.refl _⟩
end Go.Proofs.YtbdeohmdpkkpdaaGreatDoor
