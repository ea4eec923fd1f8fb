/- Contract: the thin package's Address (printed by gen_adi.py). -/
import Derived.Test.YteedhaenbamiaaaGreatDoorAdV
set_option linter.unusedVariables false
set_option linter.unusedSimpArgs false
namespace Go.Proofs.YteedhaenbamiaaaGreatDoor
open Go.RowKit

/-- what is known of the slots: b is the result's block, b + 1 the URI's, b + 2 the parameters' -/
def adrS (b : Nat) (r : AV) (pv hv xv ev : Value) (ok : Bool) : Nat → Value → World → Prop
  | 2, v, w => Bq (b + 3 ≤ ·) w v r.name
  | 3, v, _ => v = .pointer (some ⟨b, 0, none⟩)
  | 4, v, w => Kq (b + 3 ≤ ·) w v r.ps
  | 5, v, _ => v = .bool ok
  | 6, v, _ => v = .pointer (some ⟨b + 1, 0, none⟩)
  | 7, v, _ => v = .pointer (some ⟨b + 2, 0, none⟩)
  | 8, v, _ => v = .string (st r.name)
  | 9, v, _ => v = ev
  | 16, v, _ => v = .string (st r.name)
  | 17, v, w => Bq (b + 3 ≤ ·) w v r.name
  | 18, v, _ => v = .agg (r.uri.cells pv hv)
  | 19, v, w => ∃ x : UV, v = x.val ∧ Uq (b + 3 ≤ ·) w x r.uri
  | 20, v, _ => v = xv
  | 21, v, w => Kq (b + 3 ≤ ·) w v r.ps
  | 22, v, _ => v = ev
  | 23, v, _ => v = .bool ok
  | _, _, _ => True
theorem adrS_far (b : Nat) (r : AV) (pv hv xv ev : Value) (ok : Bool) (t : Nat) (v : Value) (w w' : World) (k : ∀ g, b + 3 ≤ g → g < w.heap.size → w'.heap[g]? = w.heap[g]?) (h : adrS b r pv hv xv ev ok t v w) : adrS b r pv hv xv ev ok t v w' := by
  unfold adrS at h ⊢
  split at h <;> first | exact h | exact h.keep k | skip
  · obtain ⟨x, e, h⟩ := h; exact ⟨x, e, h.keep k⟩
def adrZ (b : Nat) (r : AV) (j : Nat) (w : World) : Prop := ∃ x : UV, w.heap[b]? = some (.cells x.row 32 (0, 0)) ∧ Uq (b + 3 ≤ ·) w x r.uri
def adrG (w0 : World) (b : Nat) (r : AV) (pv hv xv : Value) (w : World) : Prop :=
  Kp b w0 w ∧ w.heap[b + 1]? = some (.cells (r.uri.cells pv hv) 84 (0, 0)) ∧ (∃ cs, cs.size = 10 ∧ w.heap[b]? = some (.cells cs 32 (0, 0))) ∧ Hp w pv r.uri.ps ∧ Hp w hv r.uri.hs ∧
    (w.cell? ⟨b + 2, 0, none⟩ = some xv ∧ b + 3 ≤ w.heap.size) ∧ Hp w xv r.ps
theorem adrG_le {w0 : World} {b : Nat} {r : AV} {pv hv xv : Value} (w w' : World) (k : Le w w') (h : adrG w0 b r pv hv xv w) : adrG w0 b r pv hv xv w' := by
  obtain ⟨h1, h2, ⟨cs, h3, h4⟩, h5, h6, ⟨h7, h8⟩, h9⟩ := h
  exact ⟨h1.le k, k.heap h2, ⟨cs, h3, k.heap h4⟩, h5.le k, h6.le k, ⟨k.cell h7, Nat.le_trans h8 k.size⟩, h9.le k⟩

theorem results_tctt {fn : Func} {p u x y : Tmp} {ty : TypeId} (h : fn.results = #[.tmp u, .cell p ty, .tmp x, .tmp y]) (tmps : Array Value) (P : Program) (w : World) :
    (results fn tmps).run P w = ((asAddr (tmps.getD p undef)).run P w).andThen fun a w' => ((loadVar ty a).run P w').andThen fun v w'' => .ok (.tuple #[tmps.getD u undef, v, tmps.getD x undef, tmps.getD y undef]) w'' := by
  simp only [results, h]
  simp [Sem.run_bind, Result.andThen]
/-- what the thin package's Address leaves -/
def IAddr (l : Tx) (w : World) (e : Ending) (w' : World) : Prop :=
  Le w w' ∧ ∃ (xn xp : Value) (x : UV) (ok : Bool) (r : AV), e = .returned (.tuple #[xn, x.val, xp, .bool ok]) ∧ Bq (w.heap.size ≤ ·) w' xn r.name ∧ Uq (w.heap.size ≤ ·) w' x r.uri ∧ Kq (w.heap.size ≤ ·) w' xp r.ps ∧ ATop l (if ok = true then some r else none)

set_option maxRecDepth 6000 in
set_option maxHeartbeats 4000000 in
theorem iaddr_c (w : World) (v : Value) (l : Tx) (hv : Bv w v l) (hl : l.length ≤ 1099511627000) (hL : LaidA w) :
    Calls Tryz.prog 30 #[v] w (IAddr l w) := by
  have hcv := fun w' (k : Le w w') => conv_bs (P := Tryz.prog) Tryz.underlying22 Tryz.underlying5 Tryz.underlying9 (hv.le k)
  have HLAID := Lib.hid hL
  obtain ⟨A, c, rfl, _⟩ := hv
  have hle1 : Le w (((w.alloc (Obj.cells #[.slice none 0 0, .slice none 0 0, .bool false, .bool false, .slice none 0 0, .slice none 0 0, .slice none 0 0, .int .i64 0, .slice none 0 0, .slice none 0 0] 32)).alloc (Obj.cells #[.string ⟨#[]⟩, .string ⟨#[]⟩, .bool false, .bool false, .string ⟨#[]⟩, .string ⟨#[]⟩, .string ⟨#[]⟩, .int .i64 0, .slice none 0 0, .slice none 0 0] 84)).alloc (Obj.cells #[.slice none 0 0] 82)) := (((Le.refl w).alloc _).alloc _).alloc _
  have hc1 := hcv (((w.alloc (Obj.cells #[.slice none 0 0, .slice none 0 0, .bool false, .bool false, .slice none 0 0, .slice none 0 0, .slice none 0 0, .int .i64 0, .slice none 0 0, .slice none 0 0] 32)).alloc (Obj.cells #[.string ⟨#[]⟩, .string ⟨#[]⟩, .bool false, .bool false, .string ⟨#[]⟩, .string ⟨#[]⟩, .string ⟨#[]⟩, .int .i64 0, .slice none 0 0, .slice none 0 0] 84)).alloc (Obj.cells #[.slice none 0 0] 82)) hle1
  have hsz1 : (w.alloc (Obj.cells #[.slice none 0 0, .slice none 0 0, .bool false, .bool false, .slice none 0 0, .slice none 0 0, .slice none 0 0, .int .i64 0, .slice none 0 0, .slice none 0 0] 32)).heap.size = w.heap.size + 1 := by simp
  have hsz2 : ((w.alloc (Obj.cells #[.slice none 0 0, .slice none 0 0, .bool false, .bool false, .slice none 0 0, .slice none 0 0, .slice none 0 0, .int .i64 0, .slice none 0 0, .slice none 0 0] 32)).alloc (Obj.cells #[.string ⟨#[]⟩, .string ⟨#[]⟩, .bool false, .bool false, .string ⟨#[]⟩, .string ⟨#[]⟩, .string ⟨#[]⟩, .int .i64 0, .slice none 0 0, .slice none 0 0] 84)).heap.size = w.heap.size + 2 := by simp
  have hua1 : UAt (((w.alloc (Obj.cells #[.slice none 0 0, .slice none 0 0, .bool false, .bool false, .slice none 0 0, .slice none 0 0, .slice none 0 0, .int .i64 0, .slice none 0 0, .slice none 0 0] 32)).alloc (Obj.cells #[.string ⟨#[]⟩, .string ⟨#[]⟩, .bool false, .bool false, .string ⟨#[]⟩, .string ⟨#[]⟩, .string ⟨#[]⟩, .int .i64 0, .slice none 0 0, .slice none 0 0] 84)).alloc (Obj.cells #[.slice none 0 0] 82)) (w.heap.size + 1) PU.zero := by
    refine ⟨.slice none 0 0, .slice none 0 0, ?_, Hp.nil _, Hp.nil _, by unfold PU.small PU.zero; simp⟩
    exact (((Le.refl _).alloc _ : Le ((w.alloc (Obj.cells #[.slice none 0 0, .slice none 0 0, .bool false, .bool false, .slice none 0 0, .slice none 0 0, .slice none 0 0, .int .i64 0, .slice none 0 0, .slice none 0 0] 32)).alloc (Obj.cells #[.string ⟨#[]⟩, .string ⟨#[]⟩, .bool false, .bool false, .string ⟨#[]⟩, .string ⟨#[]⟩, .string ⟨#[]⟩, .int .i64 0, .slice none 0 0, .slice none 0 0] 84)) (((w.alloc (Obj.cells #[.slice none 0 0, .slice none 0 0, .bool false, .bool false, .slice none 0 0, .slice none 0 0, .slice none 0 0, .int .i64 0, .slice none 0 0, .slice none 0 0] 32)).alloc (Obj.cells #[.string ⟨#[]⟩, .string ⟨#[]⟩, .bool false, .bool false, .string ⟨#[]⟩, .string ⟨#[]⟩, .string ⟨#[]⟩, .int .i64 0, .slice none 0 0, .slice none 0 0] 84)).alloc (Obj.cells #[.slice none 0 0] 82))).heap (heap_alloc2_new w _ _))
  have hres1 : (((w.alloc (Obj.cells #[.slice none 0 0, .slice none 0 0, .bool false, .bool false, .slice none 0 0, .slice none 0 0, .slice none 0 0, .int .i64 0, .slice none 0 0, .slice none 0 0] 32)).alloc (Obj.cells #[.string ⟨#[]⟩, .string ⟨#[]⟩, .bool false, .bool false, .string ⟨#[]⟩, .string ⟨#[]⟩, .string ⟨#[]⟩, .int .i64 0, .slice none 0 0, .slice none 0 0] 84)).alloc (Obj.cells #[.slice none 0 0] 82)).heap[w.heap.size]? = some (Obj.cells #[.slice none 0 0, .slice none 0 0, .bool false, .bool false, .slice none 0 0, .slice none 0 0, .slice none 0 0, .int .i64 0, .slice none 0 0, .slice none 0 0] 32 (0, 0)) := (((Le.refl _).alloc _ : Le ((w.alloc (Obj.cells #[.slice none 0 0, .slice none 0 0, .bool false, .bool false, .slice none 0 0, .slice none 0 0, .slice none 0 0, .int .i64 0, .slice none 0 0, .slice none 0 0] 32)).alloc (Obj.cells #[.string ⟨#[]⟩, .string ⟨#[]⟩, .bool false, .bool false, .string ⟨#[]⟩, .string ⟨#[]⟩, .string ⟨#[]⟩, .int .i64 0, .slice none 0 0, .slice none 0 0] 84)) (((w.alloc (Obj.cells #[.slice none 0 0, .slice none 0 0, .bool false, .bool false, .slice none 0 0, .slice none 0 0, .slice none 0 0, .int .i64 0, .slice none 0 0, .slice none 0 0] 32)).alloc (Obj.cells #[.string ⟨#[]⟩, .string ⟨#[]⟩, .bool false, .bool false, .string ⟨#[]⟩, .string ⟨#[]⟩, .string ⟨#[]⟩, .int .i64 0, .slice none 0 0, .slice none 0 0] 84)).alloc (Obj.cells #[.slice none 0 0] 82))).heap (heap_alloc2_old w _ _))
  have hbp1 : (((w.alloc (Obj.cells #[.slice none 0 0, .slice none 0 0, .bool false, .bool false, .slice none 0 0, .slice none 0 0, .slice none 0 0, .int .i64 0, .slice none 0 0, .slice none 0 0] 32)).alloc (Obj.cells #[.string ⟨#[]⟩, .string ⟨#[]⟩, .bool false, .bool false, .string ⟨#[]⟩, .string ⟨#[]⟩, .string ⟨#[]⟩, .int .i64 0, .slice none 0 0, .slice none 0 0] 84)).alloc (Obj.cells #[.slice none 0 0] 82)).heap[w.heap.size + 2]? = some (Obj.cells #[.slice none 0 0] 82 (0, 0)) := by rw [← hsz2]; exact heap_alloc_new _ _
  have hle2 : Le (w.alloc (Obj.cells #[.slice none 0 0, .slice none 0 0, .bool false, .bool false, .slice none 0 0, .slice none 0 0, .slice none 0 0, .int .i64 0, .slice none 0 0, .slice none 0 0] 32)) (((w.alloc (Obj.cells #[.slice none 0 0, .slice none 0 0, .bool false, .bool false, .slice none 0 0, .slice none 0 0, .slice none 0 0, .int .i64 0, .slice none 0 0, .slice none 0 0] 32)).alloc (Obj.cells #[.string ⟨#[]⟩, .string ⟨#[]⟩, .bool false, .bool false, .string ⟨#[]⟩, .string ⟨#[]⟩, .string ⟨#[]⟩, .int .i64 0, .slice none 0 0, .slice none 0 0] 84)).alloc (Obj.cells #[.slice none 0 0] 82)) := ((Le.refl _).alloc _).alloc _
  have hle0 : Le w (w.alloc (Obj.cells #[.slice none 0 0, .slice none 0 0, .bool false, .bool false, .slice none 0 0, .slice none 0 0, .slice none 0 0, .int .i64 0, .slice none 0 0, .slice none 0 0] 32)) := (Le.refl w).alloc _
  have hres0 : (w.alloc (Obj.cells #[.slice none 0 0, .slice none 0 0, .bool false, .bool false, .slice none 0 0, .slice none 0 0, .slice none 0 0, .int .i64 0, .slice none 0 0, .slice none 0 0] 32)).heap[w.heap.size]? = some (Obj.cells #[.slice none 0 0, .slice none 0 0, .bool false, .bool false, .slice none 0 0, .slice none 0 0, .slice none 0 0, .int .i64 0, .slice none 0 0, .slice none 0 0] 32 (0, 0)) := heap_alloc_new w _
  clear hcv hL hres1 hsz2
  go_enter Tryz.func30, Tryz.ntmps30
  go_wp2_with fail
  generalize (((w.alloc (Obj.cells #[.slice none 0 0, .slice none 0 0, .bool false, .bool false, .slice none 0 0, .slice none 0 0, .slice none 0 0, .int .i64 0, .slice none 0 0, .slice none 0 0] 32)).alloc (Obj.cells #[.string ⟨#[]⟩, .string ⟨#[]⟩, .bool false, .bool false, .string ⟨#[]⟩, .string ⟨#[]⟩, .string ⟨#[]⟩, .int .i64 0, .slice none 0 0, .slice none 0 0] 84)).alloc (Obj.cells #[.slice none 0 0] 82)) = W1 at hle1 hle2 hua1 hbp1 ⊢
  generalize w.alloc (Obj.cells #[.slice none 0 0, .slice none 0 0, .bool false, .bool false, .slice none 0 0, .slice none 0 0, .slice none 0 0, .int .i64 0, .slice none 0 0, .slice none 0 0] 32) = W0 at hsz1 hle2 hle0 hres0
  refine (pav_c (st l) W0 (w.heap.size + 1) (w.heap.size + 2) W1 hua1 hbp1 hle2 ⟨by omega, by omega⟩ (by rw [st_size]; exact hl) (HLAID.out.le hle0)).mono ?_
  rw [bs_st]
  rintro e w2 ⟨r, ev, rfl, ⟨hf, hua2, hnl, xv, hx1, hx2⟩, hor⟩
  have HNL := Lib.hid hnl
  have HLE2 : Hid (Le w w2) := Lib.hid (hle0.trans hf)
  have HRES2 := Lib.hid (hf.heap hres0)
  clear hres0 hle1 hle2 hle0 hua1 hbp1 hf hsz1 hnl
  obtain ⟨ok, hq, hpt⟩ : ∃ ok, (∀ w, (binOp .eql 94 ev .nilIface).run Tryz.prog w = .ok (.bool ok) w ∧ (eqGuard .eql 94 (.tmp 22) (.const .nilIface) ev .nilIface).run Tryz.prog w = .ok () w) ∧ ATop l (if ok = true then some r else none) := by
    rcases hor with ⟨h1, rfl⟩ | ⟨h1, T, a, rfl⟩
    · exact ⟨true, fun w => ⟨by go_simp, by go_simp⟩, h1⟩
    · exact ⟨false, fun w => ⟨by go_simp, by go_simp⟩, h1⟩
  clear hor
  obtain ⟨pv, hv, hb, hp, hh, hsm⟩ := hua2
  have HB := Lib.hid hb
  have HP := Lib.hid hp
  have HH := Lib.hid hh
  have HSM := Lib.hid hsm
  have HPT := Lib.hid hpt
  have HQ := Lib.hid hq
  have HX := Lib.hid (And.intro hx1 hx2)
  have hbl := lt_of_cell hx1
  clear hb hp hh hsm hpt hq hx1 hx2
  go_wp2
  have hm : (Tryz.prog).follows .mixedOrders = true := by kernel_rfl
  have hgl := adrG_le (w0 := w2) (b := w.heap.size) (r := r) (pv := pv) (hv := hv) (xv := xv)
  have hSl := fun t u W W' (k : Le W W') (h : adrS w.heap.size r pv hv xv ev ok t u W) => adrS_far w.heap.size r pv hv xv ev ok t u W W' (fun g _ hg => k.block g hg) h
  have hZl := fun (j : Nat) W W' (k : Le W W') (h : adrZ w.heap.size r j W) => (by obtain ⟨x, h1, h2⟩ := h; exact ⟨x, k.heap h1, h2.le k⟩ : adrZ w.heap.size r j W')
  refine wp_region_grow (adrS w.heap.size r pv hv xv ev ok) (adrZ w.heap.size r) (adrG w2 w.heap.size r pv hv xv) 24 hm (by kernel_rfl) rfl rfl ?hG [0, 1, 3, 6, 7, 8, 9, 10, 11, 12, 13, 14, 15] (by kernel_rfl) ?hold ?hs ?hend
  case hG => exact ⟨(Kp.refl _ _).le (Le.refl _).drew, HB.out, ⟨_, rfl, HRES2.out⟩, HP.out.le (Le.refl _).drew, HH.out.le (Le.refl _).drew, ⟨HX.out.1, hbl⟩, HX.out.2.le (Le.refl _).drew⟩
  case hold =>
    intro t ht
    simp only [List.mem_cons, List.mem_nil_iff, or_false] at ht
    rcases ht with rfl | rfl | rfl | rfl | rfl | rfl | rfl | rfl | rfl | rfl | rfl | rfl | rfl <;> first | exact trivial | rfl
  case hs =>
    refine ⟨?_, ?_, ?_, ?_, ?_, ?_, ?_, ?_, ?_, ?_, ?_, ?_, trivial⟩
    · refine GrowStep.det ?_
      intro a W hg hop
      have h1 : a.eval (.tmp 8) = .string (st r.name) := hop 8 (by simp [Op.operands])
      refine ⟨.string (st r.name), ?_, rfl⟩
      simp only [execOp, h1]
      go_simp
    · refine GrowStep.le hSl hZl hgl ?_
      intro a W hg hop
      have h1 : a.eval (.tmp 16) = .string (st r.name) := hop 16 (by simp [Op.operands, Call.operands])
      obtain ⟨B, c, W1, q, le1, bt⟩ := conv_mk (base := w.heap.size + 3) W (st r.name) hg.2.2.2.2.2.1.2 (by have := HNL.out; rw [st_size]; omega)
      rw [bs_st] at bt
      refine ⟨_, W1, ?_, le1, ⟨bt.1, fun g h => (bt.2 g h).1⟩⟩
      simp only [execOp, h1]
      go_simp
    · refine GrowStep.det ?_
      intro a W hg hop
      have h1 : a.eval (.tmp 6) = .pointer (some ⟨w.heap.size + 1, 0, none⟩) := hop 6 (by simp [Op.operands])
      refine ⟨.agg (r.uri.cells pv hv), ?_, rfl⟩
      have hs := loadAt_row (P := Tryz.prog) hg.2.1 Tryz.underlying84 rfl sip_size
      simp only [execOp, h1, hs, Sem.run_bind, Sem.run_pure, Result.andThen, Sem.run_map]
    · refine GrowStep.call hSl hZl hgl ?_
      intro a W hg hop
      have h1 : a.eval (.tmp 18) = .agg (r.uri.cells pv hv) := hop 18 (by simp [Op.operands, Call.operands])
      have h1' : a.tmps[18]?.getD undef = .agg (r.uri.cells pv hv) := by simpa [Act.eval] using h1
      refine ⟨68, #[.agg (r.uri.cells pv hv)], ?_, (place_c W r.uri pv hv hg.2.2.2.1 hg.2.2.2.2.1 HSM.out).mono ?_⟩
      · simp only [execOp, h1]
        go_simp
      · rintro e w' ⟨x, rfl, hx, hle⟩
        have := hg.2.2.2.2.2.1.2
        exact ⟨_, rfl, hle, x, rfl, hx.imp fun g h => by omega⟩
    · refine GrowStep.det ?_
      intro a W hg hop
      have h1 : a.eval (.tmp 7) = .pointer (some ⟨w.heap.size + 2, 0, none⟩) := hop 7 (by simp [Op.operands])
      have h2 := hg.2.2.2.2.2.1.1
      refine ⟨xv, ?_, rfl⟩
      simp only [execOp, h1]
      go_simp
    · refine GrowStep.call hSl hZl hgl ?_
      intro a W hg hop
      have h1 : a.eval (.tmp 20) = xv := hop 20 (by simp [Op.operands, Call.operands])
      have h1' : a.tmps[20]?.getD undef = xv := by simpa [Act.eval] using h1
      refine ⟨69, #[xv], ?_, (pairs_c W xv r.ps hg.2.2.2.2.2.2).mono ?_⟩
      · simp only [execOp, h1]
        go_simp
      · rintro e w' ⟨v', rfl, hx, hle⟩
        have := hg.2.2.2.2.2.1.2
        exact ⟨_, rfl, hle, hx.imp fun g h => by omega⟩
    · refine GrowStep.det ?_
      intro a W hg hop
      have h1 : a.eval (.tmp 9) = ev := hop 9 (by simp [Op.operands])
      refine ⟨ev, ?_, rfl⟩
      simp only [execOp, h1]
      go_simp
    · refine GrowStep.det ?_
      intro a W hg hop
      have h1 : a.eval (.tmp 22) = ev := hop 22 (by simp [Op.operands])
      refine ⟨.bool ok, ?_, rfl⟩
      obtain ⟨hq, hq2⟩ := HQ.out W
      simp only [execOp, h1]
      go_simp
    · refine GrowStep.det ?_
      intro a W hg hop
      have h1 : Bq (w.heap.size + 3 ≤ ·) W (a.eval (.tmp 17)) r.name := hop 17 (by simp [Op.operands])
      refine ⟨a.eval (.tmp 17), ?_, h1⟩
      simp only [execOp]
      go_simp
    · refine GrowStep.store ?_ rfl
      intro a W hg hop
      have h1 : a.eval (.tmp 3) = .pointer (some ⟨w.heap.size, 0, none⟩) := hop 3 (by simp [Op.operands])
      obtain ⟨x, h2, hx⟩ : ∃ x : UV, a.eval (.tmp 19) = x.val ∧ Uq (w.heap.size + 3 ≤ ·) W x r.uri := hop 19 (by simp [Op.operands])
      obtain ⟨h3, h4, ⟨cs, h5, h6⟩, h7, h8, ⟨h9, h10⟩, h11⟩ := hg
      have hk := kp_setRow W w.heap.size x.row
      have hfar : ∀ g, w.heap.size + 3 ≤ g → g < W.heap.size → (W.setRow w.heap.size x.row).heap[g]? = W.heap[g]? := fun g hg _ => setRow_other W _ g _ (by omega)
      refine ⟨W.setRow w.heap.size x.row, ?_, ⟨h3.trans hk, (setRow_other W _ _ _ (by omega)).trans h4, ⟨x.row, rfl, setRow_heap W _ _ _ _ _ h6⟩, h7.kp hk h6 (by decide), h8.kp hk h6 (by decide), ⟨?_, Nat.le_trans h10 hk.size⟩, h11.kp hk h6 (by decide)⟩, fun t v hv => adrS_far _ _ _ _ _ _ _ t v W _ hfar hv, ?_, x, setRow_heap W _ _ _ _ _ h6, hx.keep hfar⟩
      · have hs := run_storeVar_row (P := Tryz.prog) W w.heap.size 32 32 cs x.row h6 uri_size h5 hx.one
        simp only [execOp, h1, h2, UV.val, Instr.storeAt, Instr.sureAddr, Sem.run_bind, Sem.run_pure, Result.andThen]
        rw [show #[x.scheme, x.raw, .bool x.wild, .bool x.slash, x.user, x.pass, x.host, .int .i64 x.port, x.ps, x.hs] = x.row from rfl, hs]
      · exact (World.cell?_of_block (a := ⟨w.heap.size + 2, 0, none⟩) (setRow_other W _ _ _ (show w.heap.size + 2 ≠ w.heap.size by omega))).trans h9
      · intro j _ ⟨y, e1, e2⟩
        exact ⟨x, setRow_heap W _ _ _ _ _ h6, hx.keep hfar⟩
    · refine GrowStep.det ?_
      intro a W hg hop
      have h1 : Kq (w.heap.size + 3 ≤ ·) W (a.eval (.tmp 21)) r.ps := hop 21 (by simp [Op.operands])
      refine ⟨a.eval (.tmp 21), ?_, h1⟩
      simp only [execOp]
      go_simp
    · refine GrowStep.det ?_
      intro a W hg hop
      have h1 : a.eval (.tmp 23) = .bool ok := hop 23 (by simp [Op.operands])
      refine ⟨.bool ok, ?_, rfl⟩
      simp only [execOp, h1]
      go_simp
  case hend =>
    intro a' w' hg hd hn hS hZ
    obtain ⟨x, hx1, hx2⟩ := hZ 9 _ rfl rfl
    have h2 : Bq (w.heap.size + 3 ≤ ·) w' (a'.eval (.tmp 2)) r.name := hS 2 (by decide)
    have h3 : a'.eval (.tmp 3) = .pointer (some ⟨w.heap.size, 0, none⟩) := hS 3 (by decide)
    have h4 : Kq (w.heap.size + 3 ≤ ·) w' (a'.eval (.tmp 4)) r.ps := hS 4 (by decide)
    have h5 : a'.eval (.tmp 5) = .bool ok := hS 5 (by decide)
    have HG := Lib.hid hg
    have HK := Lib.hid (And.intro h2 h4)
    clear hS hZ hg h2 h4
    go_wp2
    refine bodyPost_ret (v := .tuple #[a'.eval (.tmp 2), x.val, a'.eval (.tmp 4), .bool ok]) ?_ hd ?_
    · rw [results_tctt rfl]
      have h3' : a'.tmps.getD 3 undef = .pointer (some ⟨w.heap.size, 0, none⟩) := h3
      have h5' : a'.tmps.getD 5 undef = .bool ok := h5
      rw [h3', h5']
      simp only [asAddr, Sem.run_pure, Result.andThen_ok, run_loadVar_row w' _ _ _ _ _ _ hx1 Tryz.underlying32 rfl uri_size]
      rfl
    · exact ⟨Below.trans HLE2.out (HG.out.1.below (Nat.le_refl _) HLE2.out.size), _, _, x, ok, r, rfl, HK.out.1.imp fun g h => by omega, hx2.imp fun g h => by omega, HK.out.2.imp fun g h => by omega, HPT.out⟩
end Go.Proofs.YteedhaenbamiaaaGreatDoor
