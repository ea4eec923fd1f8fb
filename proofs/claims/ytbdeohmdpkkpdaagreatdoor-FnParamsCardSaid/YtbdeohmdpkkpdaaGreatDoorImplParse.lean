/- Contract: the thin package's ParseUri. -/
import Derived.Test.YtbdeohmdpkkpdaaGreatDoorPlace
set_option linter.unusedVariables false
set_option linter.unusedSimpArgs false
namespace Go.Proofs.YtbdeohmdpkkpdaaGreatDoor
open Go.RowKit

theorem sip_size : ((Tryz.prog).info? 128).map (·.size) = some 10 := by kernel_rfl
theorem loadAt_row {P : Program} {w : World} {g : Nat} {t ty : TypeId} {cs : Array Value} {fr : Nat × Nat} {d : TypeDesc} (hg : w.heap[g]? = some (.cells cs t fr)) (hu : P.underlying ty = some d)
    (hd : (match d with | .struct _ | .array _ _ => true | _ => false) = true) (hi : (P.info? ty).map (·.size) = some cs.size) : (Instr.loadAt ty (.pointer (some ⟨g, 0, none⟩))).run P w = .ok (.agg cs) w := by
  simp only [Instr.loadAt, Instr.sureAddr, Sem.run_bind, Sem.run_pure, Result.andThen]
  exact run_loadVar_row w g t ty cs fr d hg hu hd hi

/-- what is known of the slots: b is the result's block, b + 1 the URI's -/
def ipS (b : Nat) (r : PU) (pv hv ev : Value) (ok : Bool) : Nat → Value → World → Prop
  | 2, v, _ => v = .pointer (some ⟨b, 0, none⟩)
  | 3, v, _ => v = .bool ok
  | 4, v, _ => v = .pointer (some ⟨b + 1, 0, none⟩)
  | 5, v, _ => v = ev
  | 9, v, _ => v = .agg (r.cells pv hv)
  | 10, v, w => ∃ x : UV, v = x.val ∧ Uq (b + 2 ≤ ·) w x r
  | 11, v, _ => v = ev
  | 12, v, _ => v = .bool ok
  | _, _, _ => True
theorem ipS_far (b : Nat) (r : PU) (pv hv ev : Value) (ok : Bool) (t : Nat) (v : Value) (w w' : World) (k : ∀ g, b + 2 ≤ g → g < w.heap.size → w'.heap[g]? = w.heap[g]?) (h : ipS b r pv hv ev ok t v w) : ipS b r pv hv ev ok t v w' := by
  unfold ipS at h ⊢
  split at h <;> first | exact h | skip
  · obtain ⟨x, e, h⟩ := h; exact ⟨x, e, h.keep k⟩
def ipZ (b : Nat) (r : PU) (j : Nat) (w : World) : Prop := ∃ x : UV, w.heap[b]? = some (.cells x.row 78 (0, 0)) ∧ Uq (b + 2 ≤ ·) w x r
def ipG (w0 : World) (b : Nat) (r : PU) (pv hv : Value) (w : World) : Prop :=
  Kp b w0 w ∧ w.heap[b + 1]? = some (.cells (r.cells pv hv) 128 (0, 0)) ∧ (∃ cs, cs.size = 10 ∧ w.heap[b]? = some (.cells cs 78 (0, 0))) ∧ Hp w pv r.ps ∧ Hp w hv r.hs
theorem ipG_le {w0 : World} {b : Nat} {r : PU} {pv hv : Value} (w w' : World) (k : Le w w') (h : ipG w0 b r pv hv w) : ipG w0 b r pv hv w' := by
  obtain ⟨h1, h2, ⟨cs, h3, h4⟩, h5, h6⟩ := h
  exact ⟨h1.le k, k.heap h2, ⟨cs, h3, k.heap h4⟩, h5.le k, h6.le k⟩

/-- what the thin package's ParseUri leaves -/
def IParse (l : Tx) (w : World) (e : Ending) (w' : World) : Prop :=
  Le w w' ∧ ∃ (x : UV) (ok : Bool) (r : PU), e = .returned (.tuple #[x.val, .bool ok]) ∧ Uq (w.heap.size ≤ ·) w' x r ∧ PTop l PU.zero (if ok = true then some r else none)

set_option maxRecDepth 4000 in
set_option maxHeartbeats 4000000 in
theorem iparse_c (w : World) (v : Value) (l : Tx) (hv : Bv w v l) (hl : l.length ≤ 1099511627000) (hL : Laid w) :
    Calls Tryz.prog 49 #[v] w (IParse l w) := by
  have hcv := fun w' (k : Le w w') => conv_bs (P := Tryz.prog) Tryz.underlying22 Tryz.underlying5 Tryz.underlying9 (hv.le k)
  have HLAID := Lib.hid hL
  obtain ⟨A, c, rfl, _⟩ := hv
  have hc1 := hcv ((w.alloc (Obj.cells #[.slice none 0 0, .slice none 0 0, .bool false, .bool false, .slice none 0 0, .slice none 0 0, .slice none 0 0, .int .i64 0, .slice none 0 0, .slice none 0 0] 78)).alloc (Obj.cells #[.string ⟨#[]⟩, .string ⟨#[]⟩, .bool false, .bool false, .string ⟨#[]⟩, .string ⟨#[]⟩, .string ⟨#[]⟩, .int .i64 0, .slice none 0 0, .slice none 0 0] 128)) (((Le.refl w).alloc _).alloc _)
  clear hcv hL
  go_enter Tryz.func49, Tryz.ntmps49
  go_wp2_with fail
  have hle1 : Le w ((w.alloc (Obj.cells #[.slice none 0 0, .slice none 0 0, .bool false, .bool false, .slice none 0 0, .slice none 0 0, .slice none 0 0, .int .i64 0, .slice none 0 0, .slice none 0 0] 78)).alloc (Obj.cells #[.string ⟨#[]⟩, .string ⟨#[]⟩, .bool false, .bool false, .string ⟨#[]⟩, .string ⟨#[]⟩, .string ⟨#[]⟩, .int .i64 0, .slice none 0 0, .slice none 0 0] 128)) := ((Le.refl w).alloc _).alloc _
  have hua1 : UAt ((w.alloc (Obj.cells #[.slice none 0 0, .slice none 0 0, .bool false, .bool false, .slice none 0 0, .slice none 0 0, .slice none 0 0, .int .i64 0, .slice none 0 0, .slice none 0 0] 78)).alloc (Obj.cells #[.string ⟨#[]⟩, .string ⟨#[]⟩, .bool false, .bool false, .string ⟨#[]⟩, .string ⟨#[]⟩, .string ⟨#[]⟩, .int .i64 0, .slice none 0 0, .slice none 0 0] 128)) (w.heap.size + 1) PU.zero := ⟨.slice none 0 0, .slice none 0 0, heap_alloc2_new w _ _, Hp.nil _, Hp.nil _, by unfold PU.small PU.zero; simp⟩
  have hres1 : ((w.alloc (Obj.cells #[.slice none 0 0, .slice none 0 0, .bool false, .bool false, .slice none 0 0, .slice none 0 0, .slice none 0 0, .int .i64 0, .slice none 0 0, .slice none 0 0] 78)).alloc (Obj.cells #[.string ⟨#[]⟩, .string ⟨#[]⟩, .bool false, .bool false, .string ⟨#[]⟩, .string ⟨#[]⟩, .string ⟨#[]⟩, .int .i64 0, .slice none 0 0, .slice none 0 0] 128)).heap[w.heap.size]? = some (Obj.cells #[.slice none 0 0, .slice none 0 0, .bool false, .bool false, .slice none 0 0, .slice none 0 0, .slice none 0 0, .int .i64 0, .slice none 0 0, .slice none 0 0] 78) := heap_alloc2_old w _ _
  have HRES1 := Lib.hid hres1
  have HLE1 := Lib.hid hle1
  have hlu : LaidU (w.heap.size + 1) ((w.alloc (Obj.cells #[.slice none 0 0, .slice none 0 0, .bool false, .bool false, .slice none 0 0, .slice none 0 0, .slice none 0 0, .int .i64 0, .slice none 0 0, .slice none 0 0] 78)).alloc (Obj.cells #[.string ⟨#[]⟩, .string ⟨#[]⟩, .bool false, .bool false, .string ⟨#[]⟩, .string ⟨#[]⟩, .string ⟨#[]⟩, .int .i64 0, .slice none 0 0, .slice none 0 0] 128)) := ⟨w, HLAID.out, hle1, by omega⟩
  refine (sip_c (st l) (w.heap.size + 1) PU.zero _ hua1 (by rw [st_size]; exact hl) hlu).mono ?_
  rw [bs_st]
  rintro e w2 ⟨hkp2, hor⟩
  have HLE2 : Hid (Le w w2) := Lib.hid (Below.trans hle1 ((hkp2.below (B := w.heap.size) (by omega) hle1.size)))
  have HRES2 := Lib.hid (hkp2.heap (by omega) hres1)
  clear hres1 hle1 hlu hua1 hkp2
  obtain ⟨ev, ok, r, rfl, hq, hua2, hpt⟩ : ∃ ev ok r, e = .returned ev ∧ (∀ w, (binOp .eql 97 ev .nilIface).run Tryz.prog w = .ok (.bool ok) w ∧ (eqGuard .eql 97 (.tmp 11) (.const .nilIface) ev .nilIface).run Tryz.prog w = .ok () w) ∧ UAt w2 (w.heap.size + 1) r ∧ PTop l PU.zero (if ok = true then some r else none) := by
    rcases hor with ⟨v, h1, rfl, h3⟩ | ⟨h1, T, a, v, rfl, h3⟩
    · exact ⟨_, true, v, rfl, fun w => ⟨by go_simp, by go_simp⟩, h3, h1⟩
    · exact ⟨_, false, v, rfl, fun w => ⟨by go_simp, by go_simp⟩, h3, h1⟩
  clear hor
  obtain ⟨pv, hv, hb, hp, hh, hsm⟩ := hua2
  have HB := Lib.hid hb
  have HP := Lib.hid hp
  have HH := Lib.hid hh
  have HSM := Lib.hid hsm
  have HPT := Lib.hid hpt
  have HQ := Lib.hid hq
  have hbl := lt_of_heap hb
  clear hb hp hh hsm hpt hq
  go_wp2
  have hm : (Tryz.prog).follows .mixedOrders = true := by kernel_rfl
  have hgl := ipG_le (w0 := w2) (b := w.heap.size) (r := r) (pv := pv) (hv := hv)
  refine wp_region_grow (ipS w.heap.size r pv hv ev ok) (ipZ w.heap.size r) (ipG w2 w.heap.size r pv hv) 13 hm (by kernel_rfl) rfl rfl ?hG [0, 1, 2, 4, 5, 6, 7, 8] (by kernel_rfl) ?hold ?hs ?hend
  case hG => exact ⟨(Kp.refl _ _).le (Le.refl _).drew, HB.out, ⟨_, rfl, HRES2.out⟩, HP.out.le (Le.refl _).drew, HH.out.le (Le.refl _).drew⟩
  case hold =>
    intro t ht
    simp only [List.mem_cons, List.mem_nil_iff, or_false] at ht
    rcases ht with rfl | rfl | rfl | rfl | rfl | rfl | rfl | rfl <;> first | exact trivial | rfl
  case hs =>
    refine ⟨?_, ?_, ?_, ?_, ?_, ?_, trivial⟩
    · refine GrowStep.det ?_
      intro a W hg hop
      have h1 : a.eval (.tmp 4) = .pointer (some ⟨w.heap.size + 1, 0, none⟩) := hop 4 (by simp [Op.operands])
      refine ⟨.agg (r.cells pv hv), ?_, rfl⟩
      have hs := loadAt_row (P := Tryz.prog) hg.2.1 Tryz.underlying128 rfl sip_size
      simp only [execOp, h1, hs, Sem.run_bind, Sem.run_pure, Result.andThen, Sem.run_map]
    · refine GrowStep.call ?_ ?_ ?_ ?_
      · exact fun t u w w' k h => ipS_far _ _ _ _ _ _ t u w w' (fun g _ hg => k.block g hg) h
      · exact fun j w w' k ⟨x, h1, h2⟩ => ⟨x, k.heap h1, h2.le k⟩
      · exact hgl
      intro a W hg hop
      have h1 : a.eval (.tmp 9) = .agg (r.cells pv hv) := hop 9 (by simp [Op.operands, Call.operands])
      have h1' : a.tmps[9]?.getD undef = .agg (r.cells pv hv) := by simpa [Act.eval] using h1
      refine ⟨94, #[.agg (r.cells pv hv)], ?_, (place_c W r pv hv hg.2.2.2.1 hg.2.2.2.2 HSM.out).mono ?_⟩
      · simp only [execOp, h1]
        go_simp
      · rintro e w' ⟨x, rfl, hx, hle⟩
        have := lt_of_heap hg.2.1
        exact ⟨_, rfl, hle, x, rfl, hx.imp fun g h => by omega⟩
    · refine GrowStep.det ?_
      intro a W hg hop
      have h1 : a.eval (.tmp 5) = ev := hop 5 (by simp [Op.operands])
      refine ⟨ev, ?_, rfl⟩
      simp only [execOp, h1]
      go_simp
    · refine GrowStep.det ?_
      intro a W hg hop
      have h1 : a.eval (.tmp 11) = ev := hop 11 (by simp [Op.operands])
      refine ⟨.bool ok, ?_, rfl⟩
      obtain ⟨hq, hq2⟩ := HQ.out W
      simp only [execOp, h1]
      go_simp
    · refine GrowStep.store ?_ rfl
      intro a W hg hop
      have h1 : a.eval (.tmp 2) = .pointer (some ⟨w.heap.size, 0, none⟩) := hop 2 (by simp [Op.operands])
      obtain ⟨x, h2, hx⟩ : ∃ x : UV, a.eval (.tmp 10) = x.val ∧ Uq (w.heap.size + 2 ≤ ·) W x r := hop 10 (by simp [Op.operands])
      obtain ⟨h3, h4, ⟨cs, h5, h6⟩, h7, h8⟩ := hg
      have hk := kp_setRow W w.heap.size x.row
      have hfar : ∀ g, w.heap.size + 2 ≤ g → g < W.heap.size → (W.setRow w.heap.size x.row).heap[g]? = W.heap[g]? := fun g hg _ => setRow_other W _ g _ (by omega)
      refine ⟨W.setRow w.heap.size x.row, ?_, ⟨h3.trans hk, (setRow_other W _ _ _ (by omega)).trans h4, ⟨x.row, rfl, setRow_heap W _ _ _ _ _ h6⟩, h7.kp hk h6 (by decide), h8.kp hk h6 (by decide)⟩, fun t v hv => ipS_far _ _ _ _ _ _ t v W _ hfar hv, ?_, x, setRow_heap W _ _ _ _ _ h6, hx.keep hfar⟩
      · have hs := run_storeVar_row (P := Tryz.prog) W w.heap.size 78 78 cs x.row h6 uri_size h5 hx.one
        simp only [execOp, h1, h2, UV.val, Instr.storeAt, Instr.sureAddr, Sem.run_bind, Sem.run_pure, Result.andThen]
        rw [show #[x.scheme, x.raw, .bool x.wild, .bool x.slash, x.user, x.pass, x.host, .int .i64 x.port, x.ps, x.hs] = x.row from rfl, hs]
      · intro j _ ⟨y, e1, e2⟩
        exact ⟨x, setRow_heap W _ _ _ _ _ h6, hx.keep hfar⟩
    · refine GrowStep.det ?_
      intro a W hg hop
      have h1 : a.eval (.tmp 12) = .bool ok := hop 12 (by simp [Op.operands])
      refine ⟨.bool ok, ?_, rfl⟩
      simp only [execOp, h1]
      go_simp
  case hend =>
    intro a' w' hg hd hn hS hZ
    obtain ⟨x, hx1, hx2⟩ := hZ 4 _ rfl rfl
    have h2 : a'.eval (.tmp 2) = .pointer (some ⟨w.heap.size, 0, none⟩) := hS 2 (by decide)
    have h3 : a'.eval (.tmp 3) = .bool ok := hS 3 (by decide)
    have HG := Lib.hid hg
    clear hS hZ hg
    go_wp2
    refine bodyPost_ret (v := .tuple #[x.val, .bool ok]) ?_ hd ?_
    · rw [results_cell_tmp rfl]
      have h2' : a'.tmps.getD 2 undef = .pointer (some ⟨w.heap.size, 0, none⟩) := h2
      have h3' : a'.tmps.getD 3 undef = .bool ok := h3
      rw [h2', h3']
      simp only [asAddr, Sem.run_pure, Result.andThen_ok, run_loadVar_row w' _ _ _ _ _ _ hx1 Tryz.underlying78 rfl uri_size]
      rfl
    · refine ⟨Below.trans HLE2.out (HG.out.1.below (Nat.le_refl _) HLE2.out.size), x, ok, r, rfl, hx2.imp fun g h => by omega, HPT.out⟩
end Go.Proofs.YtbdeohmdpkkpdaaGreatDoor
