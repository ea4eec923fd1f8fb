/- Contracts: made, header, HeadText for a CSeq header. -/
import Derived.Test.YtbdeohmdpkkpdaaGreatDoorCSeq
set_option linter.unusedVariables false
set_option linter.unusedSimpArgs false
namespace Go.Proofs.YtbdeohmdpkkpdaaGreatDoor
open Go.RowKit

/-- a header of the thin package, as a value -/
structure HV where
  t : Int
  name : Value
  text : Value
  disp : Value
  uri : UV
  ps : Value
  num : Nat
  proto : Value
  ver : Value
  tr : Value
  host : Value
  port : Int
def HV.row (h : HV) : Array Value :=
  #[.int .i64 h.t, h.name, h.text, h.disp, h.uri.scheme, h.uri.raw, .bool h.uri.wild, .bool h.uri.slash, h.uri.user, h.uri.pass, h.uri.host, .int .i64 h.uri.port, h.uri.ps, h.uri.hs, h.ps, .int .u32 h.num, h.proto, h.ver, h.tr, h.host, .int .i64 h.port]
def HV.val (h : HV) : Value := .agg h.row
/-- of it, what 'made' looks at -/
structure Hq (φ : Nat → Prop) (w : World) (h : HV) (d : Tx) (u : PU) (l : KVs) : Prop where
  disp : Bq φ w h.disp d
  uri : Uq φ w h.uri u
  ps : Kq φ w h.ps l


section
variable {P : Program} {Q : Exit → Act → World → Prop}
/-- THE RULE of XGrow, where more follows behind the region. -/
theorem wp_region_grow_put {id : Nat} {l : List Oper} {a : Act} {w : World} (S : Nat → Value → World → Prop) (Z : Nat → World → Prop) (G : World → Prop) (n : Nat) (ds : List Nat)
    (hm : P.follows .mixedOrders = true) (hB : (depsB .any l.toArray && apartB l.toArray n && aheadB .any l.toArray && decide (l.filterMap (·.dst) = ds)) = true)
    (hn : a.tmps.size = n) (hdef : a.defers = []) (hG : G w.drew) (hold : ∀ t, t ∉ ds → S t (a.eval (.tmp t)) w.drew)
    (hs : GrowAll P S Z G Q 0 l)
    (hend : ∀ v w', G w' → (∀ t, t ∈ ds → S t (v t) w') → (∀ (i : Nat) (o : Oper), l[i]? = some o → o.dst = none → Z i w') → Q .normal (putsL a v ds) w') :
    (Code.region id l.toArray true).wp P Q a w := by
  simp only [Bool.and_eq_true, decide_eq_true_eq] at hB
  obtain ⟨⟨⟨hd, ha⟩, hah⟩, hds⟩ := hB
  refine wp_region_any hm ?_
  refine grow_any' hd ha (fun i o ho => by have := hs.at i o (by simpa using ho); simpa using this) ?_ l.toArray.size _ a _ (by simp) ?_ ?_ (S := S) (Z := Z) (G := G) (n := n) (a0 := a)
  · intro listed a' w' hz h hr
    have hall := all_listed hah hz hr
    have hmem : ∀ (i : Nat) (o : Oper) (t : Nat), l.toArray[i]? = some o → o.dst = some t → t ∈ ds := fun i o t ho hdt => by
      rw [← hds]
      obtain ⟨hlt, e⟩ := List.getElem?_eq_some_iff.1 (show l[i]? = some o by simpa using ho)
      exact List.mem_filterMap.2 ⟨o, e ▸ List.getElem_mem hlt, hdt⟩
    have e : a' = putsL a (fun t => a'.eval (.tmp t)) ds := by
      refine act_ext (by rw [h.d, putsL_defers, hdef]) (by rw [h.sz, putsL_tmps_size, hn]) fun t ht => ?_
      rw [putsL_eval _ t ds a (by rw [hn, ← h.sz]; exact ht)]
      by_cases hm : t ∈ ds
      · rw [if_pos hm]
      · rw [if_neg hm]
        exact h.un t fun i o ho _ hdt => hm (hmem i o t ho hdt)
    rw [e]
    refine hend _ w' h.g (fun t ht => ?_) (fun i o ho hdn => ?_)
    · rw [← hds] at ht
      obtain ⟨o, ho, hdt⟩ := List.mem_filterMap.1 ht
      obtain ⟨i, hi, e2⟩ := List.getElem_of_mem ho
      have hli : l.toArray[i]? = some o := by simp [List.getElem?_eq_getElem hi, e2]
      have hnew := h.new i o hli (hall i (Array.getElem?_eq_some_iff.1 hli).1)
      unfold oval at hnew
      rw [hdt] at hnew
      exact hnew
    · have ho' : l.toArray[i]? = some o := by simpa using ho
      have hnew := h.new i o ho' (hall i (Array.getElem?_eq_some_iff.1 ho').1)
      rw [hdn] at hnew
      exact hnew
  · simp
  · refine ⟨hG, hdef, hn, fun t ht hno => ?_, fun t _ => rfl, fun i o ho hl => ?_⟩
    · refine hold t fun hm => ?_
      rw [← hds] at hm
      obtain ⟨o, ho, hdt⟩ := List.mem_filterMap.1 hm
      obtain ⟨i, hi, e2⟩ := List.getElem_of_mem ho
      exact hno i o (by simp [List.getElem?_eq_getElem hi, e2]) hdt
    · rw [getD_replicate_false] at hl; cases hl
end

def mdS (b : Nat) (h : HV) (d : Tx) (u : PU) (l : KVs) : Nat → Value → World → Prop
  | 1, v, _ => v = .pointer (some ⟨b, 0, none⟩)
  | 3, v, _ => v = .string (st d)
  | 4, v, w => ∃ g, v = .pointer (some ⟨g, 0, none⟩) ∧ b + 1 ≤ g ∧ ∃ cs, cs.size = 10 ∧ w.heap[g]? = some (.cells cs 128 (0, 0))
  | 5, v, w => Hp w v l
  | 6, v, _ => v = .pointer (some ⟨b, 3, none⟩)
  | 7, v, _ => v = h.disp
  | 8, v, _ => v = .string (st d)
  | 9, v, _ => v = .pointer (some ⟨b, 4, none⟩)
  | 10, v, _ => v = h.uri.val
  | 11, v, w => ∃ pv hv, v = .agg (u.cells pv hv) ∧ Hp w pv u.ps ∧ Hp w hv u.hs
  | 12, v, _ => v = .pointer (some ⟨b, 14, none⟩)
  | 13, v, _ => v = h.ps
  | 14, v, w => Hp w v l
  | _, _, _ => True
theorem mdS_le (b : Nat) (h : HV) (d : Tx) (u : PU) (l : KVs) (t : Nat) (v : Value) (w w' : World) (k : Le w w') (hh : mdS b h d u l t v w) : mdS b h d u l t v w' := by
  unfold mdS at hh ⊢
  split at hh <;> first | exact hh | exact hh.le k | skip
  · obtain ⟨g, e, h1, cs, h2, h3⟩ := hh; exact ⟨g, e, h1, cs, h2, k.heap h3⟩
  · obtain ⟨pv, hv, e, h1, h2⟩ := hh; exact ⟨pv, hv, e, h1.le k, h2.le k⟩
/-- the argument's block, and what stood at the call -/
def mdG (w : World) (h : HV) (W : World) : Prop := Le w W ∧ W.heap[w.heap.size]? = some (.cells h.row 85 (0, 0))

set_option maxRecDepth 4000 in
set_option maxHeartbeats 4000000 in
theorem made_c (φ : Nat → Prop) (w : World) (h : HV) (d : Tx) (u : PU) (l : KVs) (hq : Hq φ w h d u l) (hs : u.small) (hr : u.raw = []) (ht : h.t = 5) (hkp : KSm 1099511627775 u.ps) (hkh : KSm 1099511627775 u.hs) (hkl : KSm 1099511627775 l) :
    Calls Tryz.prog 119 #[h.val] w fun e w' => e = .returned .nilIface ∧ Le w w' := by
  have hval : Hid (h.val = .agg #[.int .i64 5, h.name, h.text, h.disp, h.uri.scheme, h.uri.raw, .bool h.uri.wild, .bool h.uri.slash, h.uri.user, h.uri.pass, h.uri.host, .int .i64 h.uri.port, h.uri.ps, h.uri.hs, h.ps, .int .u32 h.num, h.proto, h.ver, h.tr, h.host, .int .i64 h.port]) := Lib.hid (by unfold HV.val HV.row; rw [ht])
  have HQ := Lib.hid hq
  have HS := Lib.hid hs
  clear hq hs
  rw [hval.out]
  go_enter Tryz.func119, Tryz.ntmps119
  go_wp2
  have hrow : Hid (h.row = #[.int .i64 5, h.name, h.text, h.disp, h.uri.scheme, h.uri.raw, .bool h.uri.wild, .bool h.uri.slash, h.uri.user, h.uri.pass, h.uri.host, .int .i64 h.uri.port, h.uri.ps, h.uri.hs, h.ps, .int .u32 h.num, h.proto, h.ver, h.tr, h.host, .int .i64 h.port]) := Lib.hid (by unfold HV.row; rw [ht])
  rw [← hrow.out]
  have hm : (Tryz.prog).follows .mixedOrders = true := by kernel_rfl
  have hGl : ∀ w1 w2, Le w1 w2 → mdG w h w1 → mdG w h w2 := fun w1 w2 k hh => ⟨Le.trans hh.1 k, Le.heap k hh.2⟩
  refine wp_region_grow_put (mdS w.heap.size h d u l) (fun _ _ => True) (mdG w h) 87 [6, 7, 8, 9, 10, 11, 12, 13, 14, 4, 3, 5] hm (by kernel_rfl) rfl rfl ?hG ?hold ?hs ?hend
  case hG => exact ⟨((Le.refl w).alloc _).drew, heap_alloc_new w _⟩
  case hold =>
    intro t ht
    simp only [List.mem_cons, List.mem_nil_iff, or_false, not_or] at ht
    unfold mdS
    split <;> first | rfl | trivial | (exfalso; simp at ht)
  case hs =>
    refine ⟨?_, ?_, ?_, ?_, ?_, ?_, ?_, ?_, ?_, ?_, ?_, ?_, ?_, trivial⟩
    · refine GrowStep.det ?_
      intro a W hg hop
      have h1 : a.eval (.tmp 1) = .pointer (some ⟨w.heap.size, 0, none⟩) := (hop 1 (by simp [Op.operands, Call.operands]))
      refine ⟨.pointer (some ⟨w.heap.size, 3, none⟩), ?_, rfl⟩
      simp only [execOp, h1]
      go_simp
    · refine GrowStep.det ?_
      intro a W hg hop
      have h1 : a.eval (.tmp 6) = .pointer (some ⟨w.heap.size, 3, none⟩) := (hop 6 (by simp [Op.operands, Call.operands]))
      have h2 : W.cell? ⟨w.heap.size, 3, none⟩ = some (h.disp) := by rw [cell_cells hg.2 3, hrow.out]; rfl
      refine ⟨h.disp, ?_, rfl⟩
      simp only [execOp, h1]
      go_simp
    · refine GrowStep.det ?_
      intro a W hg hop
      have h1 : a.eval (.tmp 7) = h.disp := (hop 7 (by simp [Op.operands, Call.operands]))
      have hc := conv_bs (P := Tryz.prog) Tryz.underlying22 Tryz.underlying5 Tryz.underlying9 (HQ.out.disp.1.le hg.1)
      refine ⟨.string (st d), ?_, rfl⟩
      simp only [execOp, h1]
      go_simp
    · refine GrowStep.det ?_
      intro a W hg hop
      have h1 : a.eval (.tmp 1) = .pointer (some ⟨w.heap.size, 0, none⟩) := (hop 1 (by simp [Op.operands, Call.operands]))
      refine ⟨.pointer (some ⟨w.heap.size, 4, none⟩), ?_, rfl⟩
      simp only [execOp, h1]
      go_simp
    · refine GrowStep.det ?_
      intro a W hg hop
      have h1 : a.eval (.tmp 9) = .pointer (some ⟨w.heap.size, 4, none⟩) := (hop 9 (by simp [Op.operands, Call.operands]))
      have c0 : W.cell? ⟨w.heap.size, 4, none⟩ = some (h.uri.scheme) := by rw [cell_cells hg.2 4, hrow.out]; rfl
      have c1 : W.cell? ⟨w.heap.size, 5, none⟩ = some (h.uri.raw) := by rw [cell_cells hg.2 5, hrow.out]; rfl
      have c2 : W.cell? ⟨w.heap.size, 6, none⟩ = some (.bool h.uri.wild) := by rw [cell_cells hg.2 6, hrow.out]; rfl
      have c3 : W.cell? ⟨w.heap.size, 7, none⟩ = some (.bool h.uri.slash) := by rw [cell_cells hg.2 7, hrow.out]; rfl
      have c4 : W.cell? ⟨w.heap.size, 8, none⟩ = some (h.uri.user) := by rw [cell_cells hg.2 8, hrow.out]; rfl
      have c5 : W.cell? ⟨w.heap.size, 9, none⟩ = some (h.uri.pass) := by rw [cell_cells hg.2 9, hrow.out]; rfl
      have c6 : W.cell? ⟨w.heap.size, 10, none⟩ = some (h.uri.host) := by rw [cell_cells hg.2 10, hrow.out]; rfl
      have c7 : W.cell? ⟨w.heap.size, 11, none⟩ = some (.int .i64 h.uri.port) := by rw [cell_cells hg.2 11, hrow.out]; rfl
      have c8 : W.cell? ⟨w.heap.size, 12, none⟩ = some (h.uri.ps) := by rw [cell_cells hg.2 12, hrow.out]; rfl
      have c9 : W.cell? ⟨w.heap.size, 13, none⟩ = some (h.uri.hs) := by rw [cell_cells hg.2 13, hrow.out]; rfl
      refine ⟨h.uri.val, ?_, rfl⟩
      unfold UV.val
      simp only [execOp, h1]
      go_simp
    · refine GrowStep.call ?_ ?_ ?_ ?_
      · exact fun t u' w1 w2 k hh => mdS_le _ _ _ _ _ t u' w1 w2 k hh
      · exact fun _ _ _ _ h => h
      · exact hGl
      intro a W hg hop
      have h0 : a.eval (.tmp 10) = h.uri.val := (hop 10 (by simp [Op.operands, Call.operands]))
      have h1' : a.tmps[10]?.getD undef = h.uri.val := by simpa [Act.eval] using h0
      refine ⟨96, #[h.uri.val], ?_, (address_c φ W h.uri u (HQ.out.uri.le hg.1) HS.out hr hkp hkh).mono ?_⟩
      · simp only [execOp, h0]
        go_simp
      · rintro e w' ⟨pv, hv, rfl, k1, k2, hle⟩
        exact ⟨_, rfl, hle, pv, hv, rfl, k1, k2⟩
    · refine GrowStep.det ?_
      intro a W hg hop
      have h1 : a.eval (.tmp 1) = .pointer (some ⟨w.heap.size, 0, none⟩) := (hop 1 (by simp [Op.operands, Call.operands]))
      refine ⟨.pointer (some ⟨w.heap.size, 14, none⟩), ?_, rfl⟩
      simp only [execOp, h1]
      go_simp
    · refine GrowStep.det ?_
      intro a W hg hop
      have h1 : a.eval (.tmp 12) = .pointer (some ⟨w.heap.size, 14, none⟩) := (hop 12 (by simp [Op.operands, Call.operands]))
      have h2 : W.cell? ⟨w.heap.size, 14, none⟩ = some (h.ps) := by rw [cell_cells hg.2 14, hrow.out]; rfl
      refine ⟨h.ps, ?_, rfl⟩
      simp only [execOp, h1]
      go_simp
    · refine GrowStep.call ?_ ?_ ?_ ?_
      · exact fun t u' w1 w2 k hh => mdS_le _ _ _ _ _ t u' w1 w2 k hh
      · exact fun _ _ _ _ h => h
      · exact hGl
      intro a W hg hop
      have h0 : a.eval (.tmp 13) = h.ps := (hop 13 (by simp [Op.operands, Call.operands]))
      have h1' : a.tmps[13]?.getD undef = h.ps := by simpa [Act.eval] using h0
      refine ⟨79, #[h.ps], ?_, (ikv_c φ W h.ps l (HQ.out.ps.le hg.1) hkl.2 hkl.1).mono ?_⟩
      · simp only [execOp, h0]
        go_simp
      · rintro e w' ⟨v', rfl, hk, _, hle⟩
        exact ⟨v', rfl, hle, hk⟩
    · refine GrowStep.le ?_ ?_ ?_ ?_
      · exact fun t u' w1 w2 k hh => mdS_le _ _ _ _ _ t u' w1 w2 k hh
      · exact fun _ _ _ _ h => h
      · exact hGl
      intro a W hg hop
      refine ⟨.pointer (some ⟨W.heap.size, 0, none⟩), W.alloc (.cells #[.string ⟨#[]⟩, .string ⟨#[]⟩, .bool false, .bool false, .string ⟨#[]⟩, .string ⟨#[]⟩, .string ⟨#[]⟩, .int .i64 0, .slice none 0 0, .slice none 0 0] 128), ?_, (Le.refl W).alloc _, W.heap.size, rfl, lt_of_heap hg.2, _, ?_, heap_alloc_new W _⟩
      · simp only [execOp]
        go_simp
      · rfl
    · refine GrowStep.det ?_
      intro a W hg hop
      have h1 : a.eval (.tmp 8) = .string (st d) := (hop 8 (by simp [Op.operands, Call.operands]))
      refine ⟨.string (st d), ?_, rfl⟩
      simp only [execOp, h1]
      go_simp
    · refine GrowStep.store ?_ rfl
      intro a W hg hop
      obtain ⟨g, h1, hgb, cs, h5, h6⟩ : ∃ g, a.eval (.tmp 4) = .pointer (some ⟨g, 0, none⟩) ∧ w.heap.size + 1 ≤ g ∧ ∃ cs : Array Value, cs.size = 10 ∧ W.heap[g]? = some (.cells cs 128 (0, 0)) := (hop 4 (by simp [Op.operands, Call.operands]))
      obtain ⟨pv, hv, h2, hp1, hp2⟩ : ∃ pv hv, a.eval (.tmp 11) = .agg (u.cells pv hv) ∧ Hp W pv u.ps ∧ Hp W hv u.hs := (hop 11 (by simp [Op.operands, Call.operands]))
      have hk := kp_setRow W g (u.cells pv hv)
      have hone : (u.cells pv hv).all (·.oneCell') = true := by
        obtain ⟨A, c, rfl, _⟩ := hp1
        obtain ⟨A', c', rfl, _⟩ := hp2
        unfold PU.cells
        simp only [List.all_toArray, List.all_cons, List.all_nil]
        rfl
      have hkp2 : ∀ v l, Hp W v l → Hp (W.setRow g (u.cells pv hv)) v l := fun v l h => h.kp hk h6 (by decide)
      refine ⟨W.setRow g (u.cells pv hv), ?_, ⟨Below.trans hg.1 (hk.below (by omega) hg.1.size), (setRow_other W _ _ _ (by omega)).trans hg.2⟩, fun t v hh => ?_, fun _ _ h => h, trivial⟩
      · have hst := run_storeVar_row (P := Tryz.prog) W g 128 128 cs (u.cells pv hv) h6 sip_size h5 hone
        simp only [execOp, h1, h2, Instr.storeAt, Instr.sureAddr, Sem.run_bind, Sem.run_pure, Result.andThen, hst]
      · unfold mdS at hh ⊢
        split at hh <;> first | exact hh | exact hkp2 _ _ hh | skip
        · obtain ⟨g2, e, k1, cs2, k2, k3⟩ := hh
          refine ⟨g2, e, k1, ?_⟩
          by_cases hgg : g2 = g
          · subst hgg; exact ⟨u.cells pv hv, rfl, setRow_heap W _ _ _ _ _ h6⟩
          · exact ⟨cs2, k2, (setRow_other W _ _ _ hgg).trans k3⟩
        · obtain ⟨pv', hv', e, k1, k2⟩ := hh; exact ⟨pv', hv', e, hkp2 _ _ k1, hkp2 _ _ k2⟩
    · refine GrowStep.det ?_
      intro a W hg hop
      have h1 : Hp W (a.eval (.tmp 14)) l := (hop 14 (by simp [Op.operands, Call.operands]))
      exact ⟨a.eval (.tmp 14), rfl, h1⟩
  case hend =>
    intro v w' hg hS hZ
    have HG := Lib.hid hg
    have g0 : w'.cell? ⟨w.heap.size, 0, none⟩ = some (.int .i64 5) := by rw [cell_cells hg.2 0, hrow.out]; rfl
    clear hS hZ hg
    simp only [putsL, Act.put, List.setIfInBounds_toArray, List.set_cons_zero, List.set_cons_succ]
    go_wp2
    go_ret
    exact ⟨rfl, HG.out.1⟩
end Go.Proofs.YtbdeohmdpkkpdaaGreatDoor
