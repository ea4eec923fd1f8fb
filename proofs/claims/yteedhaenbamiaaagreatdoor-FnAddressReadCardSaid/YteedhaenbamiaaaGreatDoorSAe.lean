/- Contracts: the specification's reader of addresses without brackets. -/
import Derived.Test.YteedhaenbamiaaaGreatDoorSAd
import Derived.Test.YteedhaenbamiaaaGreatDoorAdI
set_option linter.unusedVariables false
set_option linter.unusedSimpArgs false
namespace Go.Proofs.YteedhaenbamiaaaGreatDoor
open Go.RowKit

theorem bareC_eq (c : UInt8) : bareC c = !hasB (bs ⟨#[59, 63, 44, 34, 32]⟩) c := by
  have h3 : hasB (bs ⟨#[59, 63, 44, 34, 32]⟩) c = (c == 59 || (c == 63 || (c == 44 || (c == 34 || (c == 32 || false))))) := rfl
  rw [h3]
  unfold bareC
  cases h1 : (c == 59) <;> cases h2 : (c == 63) <;> cases h3 : (c == 44) <;> cases h4 : (c == 34) <;> cases h5 : (c == 32) <;> simp [bne, h1, h2, h3, h4, h5]
/-- what the specification's reader leaves -/
def SAPost (s : SA) (w : World) (e : Ending) (w' : World) : Prop :=
  ∃ (nv pv : Value) (x : UV) (kd : Int), e = .returned (.tuple #[nv, x.val, pv, .int .i64 kd]) ∧ Le w w' ∧ x.row.all (·.oneCell') = true ∧
    match s with
    | .open_ => kd = -2
    | .val n u kvs => kd = 0 ∧ Bv w' nv n ∧ Uq (fun _ => True) w' x u ∧ Kq (fun _ => True) w' pv kvs
theorem sa_results {W : World} {b : Nat} {row : Array Value} {a : Act} {nv pv : Value} {kd : Int} {fn : Func} (hf : fn.results = #[.tmp 2, .cell 3 36, .tmp 4, .tmp 5]) (h : W.heap[b]? = some (.cells row 36 (0, 0)))
    (h2 : a.tmps.getD 2 undef = nv) (h3 : a.tmps.getD 3 undef = .pointer (some ⟨b, 0, none⟩)) (h4 : a.tmps.getD 4 undef = pv) (h5 : a.tmps.getD 5 undef = .int .i64 kd) (hs : row.size = 10 := by rfl) :
    (results fn a.tmps).run Tryz.prog W = .ok (.tuple #[nv, .agg row, pv, .int .i64 kd]) W := by
  rw [results_tctt hf, h2, h3, h4, h5]
  simp only [asAddr, Sem.run_pure, Result.andThen_ok, run_loadVar_row W _ _ _ _ _ _ h Tryz.underlying36 rfl (by rw [hs]; exact spu_size)]

/-! ### a block of noughts is nothing that is read -/
theorem zrow_at (j : Nat) (v : Value) (h : zrow[j]? = some v) : v = .slice none 0 0 ∨ v = .bool false ∨ v = .int .i64 0 := by
  unfold zrow at h
  rcases j with _ | _ | _ | _ | _ | _ | _ | _ | _ | _ | j <;> simp at h <;> simp [← h]
theorem Bv.keepZ {w w' : World} {b : Nat} {v : Value} {l : Tx} (h : Bv w v l) (hb : w.heap[b]? = some (.cells zrow 36 (0, 0))) (k : ∀ g, g ≠ b → g < w.heap.size → w'.heap[g]? = w.heap[g]?) : Bv w' v l := by
  obtain ⟨A, c, rfl, h1, h2, h3, h4⟩ := h
  refine ⟨A, c, rfl, h1, h2, h3, fun hn => ?_⟩
  obtain ⟨g, o, rfl, hc⟩ := h4 hn
  refine ⟨g, o, rfl, fun j hj => ?_⟩
  have h0 := hc j hj
  refine (World.cell?_of_block (a := ⟨g, o + j, none⟩) (k g ?_ (lt_of_cell h0))).trans h0
  rintro rfl
  rw [cell_cells hb] at h0
  rcases zrow_at _ _ h0 with e | e | e <;> cases e
theorem Bq.keepZ {w w' : World} {b : Nat} {v : Value} {l : Tx} (h : Bq (fun _ => True) w v l) (hb : w.heap[b]? = some (.cells zrow 36 (0, 0))) (k : ∀ g, g ≠ b → g < w.heap.size → w'.heap[g]? = w.heap[g]?) : Bq (fun _ => True) w' v l :=
  ⟨h.1.keepZ hb k, h.2⟩
theorem Kq.keepZ {w w' : World} {b : Nat} {v : Value} {l : KVs} (h : Kq (fun _ => True) w v l) (hb : w.heap[b]? = some (.cells zrow 36 (0, 0))) (k : ∀ g, g ≠ b → g < w.heap.size → w'.heap[g]? = w.heap[g]?) (hk : ∀ x ∈ l, x.1 ≠ []) : Kq (fun _ => True) w' v l := by
  obtain ⟨A, c, e, h1, h2, h3, h4⟩ := h
  refine ⟨A, c, e, h1, h2, h3, fun hn => ?_⟩
  obtain ⟨g, o, e, hg, hc⟩ := h4 hn
  have hgb : g ≠ b := by
    rintro rfl
    obtain ⟨x, y, hx, hy, hx2, hy2⟩ := hc 0 hn
    rw [cell_cells hb] at hx
    have hne := hk l[0] (List.getElem_mem hn)
    obtain ⟨A, c, rfl, _⟩ := hx2.1
    rcases zrow_at _ _ hx with e | e | e
    · injection e with _ e; exact hne (List.eq_nil_of_length_eq_zero e)
    · cases e
    · cases e
  refine ⟨g, o, e, hg, fun j hj => ?_⟩
  obtain ⟨x, y, hx, hy, hx2, hy2⟩ := hc j hj
  have hk := k g hgb (lt_of_cell hx)
  exact ⟨x, y, (World.cell?_of_block (a := ⟨g, o + j * 2, none⟩) hk).trans hx, (World.cell?_of_block (a := ⟨g, o + j * 2 + 1, none⟩) hk).trans hy, hx2.keepZ hb k, hy2.keepZ hb k⟩
theorem Uq.keepZ {w w' : World} {b : Nat} {x : UV} {u : PU} (h : Uq (fun _ => True) w x u) (hb : w.heap[b]? = some (.cells zrow 36 (0, 0))) (k : ∀ g, g ≠ b → g < w.heap.size → w'.heap[g]? = w.heap[g]?) (hp : ∀ x ∈ u.ps, x.1 ≠ []) (hh : ∀ x ∈ u.hs, x.1 ≠ []) : Uq (fun _ => True) w' x u :=
  ⟨h.scheme.keepZ hb k, h.raw.keepZ hb k, h.wild, h.slash, h.user.keepZ hb k, h.pass.keepZ hb k, h.host.keepZ hb k, h.port, h.ps.keepZ hb k hp, h.hs.keepZ hb k hh⟩
theorem pairsS_key {l : Tx} {sp : UInt8} {s : Tx} {kvs : KVs} (h : pairsS l sp s = some kvs) : ∀ x ∈ kvs, x.1 ≠ [] := by
  unfold pairsS at h
  split at h
  · rename_i hc
    injection h with h; subst h
    simp only [Bool.and_eq_true, List.all_eq_true] at hc
    intro x hx
    obtain ⟨p, hp, rfl⟩ := List.mem_map.1 hx
    have := hc.1 p hp
    unfold kvOk at this
    simp only [Bool.and_eq_true, Bool.not_eq_true', List.isEmpty_eq_false_iff] at this
    exact this.1.1.2
  · cases h
theorem sUri_key {l : Tx} {u : PU} (h : sUri l = .val u) : (∀ x ∈ u.ps, x.1 ≠ []) ∧ ∀ x ∈ u.hs, x.1 ≠ [] := by
  have hS : ∀ sc r, SR.of (sSipUri sc r) = .val u → (∀ x ∈ u.ps, x.1 ≠ []) ∧ ∀ x ∈ u.hs, x.1 ≠ [] := by
    intro sc r h
    unfold sSipUri at h
    split at h
    · cases h
    · split at h
      · cases h
      · rename_i hs s1 h1
        split at h
        · cases h
        · rename_i ps s2 h2
          split at h
          · cases h
          · injection h with h; subst h
            constructor
            · unfold sParams at h2
              split at h2
              · split at h2
                · rename_i hq
                  split at h2
                  · cases h2
                  · injection h2 with h2; injection h2 with h2; subst h2; exact pairsS_key hq
                · cases h2
              · injection h2 with h2; injection h2 with h2; subst h2; simp
            · unfold sHeads at h1
              split at h1
              · split at h1
                · rename_i hq
                  split at h1
                  · injection h1 with h1; injection h1 with h1; subst h1; exact pairsS_key hq
                  · cases h1
                · cases h1
              · injection h1 with h1; injection h1 with h1; subst h1; simp
  unfold sUri at h
  split at h
  · cases h
  · split at h
    · injection h with h; subst h; simp [PU.zero]
    · dsimp only at h
      split at h
      · split at h
        · split at h
          · injection h with h; subst h; simp [PU.zero]
          · cases h
        · split at h
          · cases h
          · split at h
            · cases h
            · exact hS _ _ h
      · cases h
def baS (b c : Nat) (row : Array Value) : Nat → Value → World → Prop
  | 2, v, _ => v = .slice none 0 0
  | 3, v, _ => v = .pointer (some ⟨b, 0, none⟩)
  | 4, v, _ => v = .slice none 0 0
  | 5, v, _ => v = .int .i64 0
  | 7, v, _ => v = .pointer (some ⟨c, 0, none⟩)
  | 33, v, _ => v = .agg row
  | _, _, _ => True
theorem baS_any (b c : Nat) (row : Array Value) (t : Nat) (v : Value) (w w' : World) (h : baS b c row t v w) : baS b c row t v w' := by
  unfold baS at h ⊢
  split at h <;> exact h
def baG (w0 : World) (b c : Nat) (row : Array Value) (w : World) : Prop :=
  Kp b w0 w ∧ w.heap[c]? = some (.cells row 36 (0, 0)) ∧ ∃ cs, cs.size = 10 ∧ w.heap[b]? = some (.cells cs 36 (0, 0))

set_option maxRecDepth 8000 in
set_option maxHeartbeats 8000000 in
theorem bare_c (v : Value) (l : Tx) (w : World) (hv : Bv w v l) (hl : l.length ≤ 1099511627000) :
    Calls Tryz.prog 70 #[v] w (SAPost (sBare l) w) := by
  have HV := Lib.hid hv
  obtain ⟨A, cc, rfl, h1, h2, h4⟩ := hv
  have h3 := h4.1
  go_enter Tryz.func70, Tryz.ntmps70
  go_wp2
  have HPB : Hid (PB w (w.alloc (Obj.cells zrow 36))) := Lib.hid ⟨(Le.refl w).alloc _, heap_alloc_new w _⟩
  have hzr : zrow = #[(.slice none 0 0), (.slice none 0 0), .bool false, .bool false, (.slice none 0 0), (.slice none 0 0), (.slice none 0 0), .int .i64 0, (.slice none 0 0), (.slice none 0 0)] := rfl
  rw [hzr] at HPB
  generalize w.alloc (Obj.cells #[(.slice none 0 0), (.slice none 0 0), .bool false, .bool false, (.slice none 0 0), (.slice none 0 0), (.slice none 0 0), .int .i64 0, (.slice none 0 0), (.slice none 0 0)] 36) = W0 at HPB ⊢
  clear hzr
  have HR := Lib.hid (h4.le HPB.out.1)
  clear h4
  go_loop [6] (fun i => ∃ k : Nat, k ≤ l.length ∧ i = .int .i64 k ∧ (l.take k).all bareC = true) (fun i => l.length - (intOf i).toNat)
  case atStart => exact ⟨0, Nat.zero_le _, rfl, rfl⟩
  case round =>
    obtain ⟨k, hk, rfl, hq⟩ := hrel
    have HQ := Lib.hid hq
    clear hq
    by_cases hlt : k < l.length
    · obtain ⟨b, o, rfl, d1⟩ := HR.out.at_ hlt
      have ci := isIn_c l[k] ⟨#[59, 63, 44, 34, 32]⟩ W0 (by decide)
      have HPC := Lib.hid (bareC_eq l[k])
      rcases hp : bareC l[k] with _ | _
      · have HX : Hid (sBare l = .open_) := Lib.hid (by unfold sBare; rw [if_neg (by rw [Bool.not_eq_true]; exact List.all_eq_false.2 ⟨l[k], List.getElem_mem hlt, by rw [hp]; simp⟩)])
        have hp2 : hasB (bs ⟨#[59, 63, 44, 34, 32]⟩) l[k] = true := by have := HPC.out; rw [hp] at this; simpa using this.symm
        have CI := Lib.hid (bool_call ci hp2)
        clear ci hp hp2 HPC
        generalize (l[k].toNat : Int) = x at d1 CI
        go_wp2_with (first | (go_at_call 95; refine CI.out.mono ?_; rintro e w' ⟨rfl, rfl⟩) | refine wpList_build0 rfl 36 rfl (some 20) rfl zrow su_built ?_ | refine wpList_store_rowG rfl 36 (.tmp 3) (.tmp 20) rfl w.heap.size zrow rfl rfl 36 zrow HPB.out.2 spu_size rfl zrow_one ?_)
        intro WZ hz hkz
        have HLZ : Hid (Le w WZ) := Lib.hid (Below.trans HPB.out.1 (hkz.below (Nat.le_refl _) HPB.out.1.size))
        have HZ := Lib.hid hz
        clear hz hkz
        go_wp2
        refine bodyPost_ret (v := .tuple #[.slice none 0 0, UV.nil.val, .slice none 0 0, .int .i64 (-2)]) ?_ rfl ⟨_, _, UV.nil, _, rfl, HLZ.out, zrow_one, by rw [HX.out]⟩
        exact sa_results rfl HZ.out rfl rfl rfl rfl
      · have HX : Hid ((l.take (k + 1)).all bareC = true) := Lib.hid (by rw [List.take_succ_eq_append_getElem hlt, List.all_append, HQ.out]; simpa using hp)
        have hp2 : hasB (bs ⟨#[59, 63, 44, 34, 32]⟩) l[k] = false := by have := HPC.out; rw [hp] at this; simpa using this.symm
        have CI := Lib.hid (bool_call ci hp2)
        clear ci hp hp2 HPC
        generalize (l[k].toNat : Int) = x at d1 CI
        go_wp2_with (go_at_call 95; refine CI.out.mono ?_; rintro e w' ⟨rfl, rfl⟩)
        go_round
        case rel => exact ⟨k + 1, by omega, by go_num, HX.out⟩
        case measure => simp [intOf]; omega
    · have HA : Hid (l.all bareC = true) := Lib.hid (by
        have h1 := HQ.out
        rw [List.take_of_length_le (by omega)] at h1
        exact h1)
      have HS : Hid (sBare l = (match sUri l with | .val u => if u.wild = true then .open_ else .val [] u [] | _ => .open_)) := Lib.hid (by
        unfold sBare; rw [if_pos HA.out]; rfl)
      go_wp2_with fail
      refine (parse_c _ l W0 (HV.out.le HPB.out.1) hl).mono ?_
      rintro e w1 ⟨x, kd, rfl, hle1, hone, hm⟩
      have HM := Lib.hid hm
      have HONE := Lib.hid hone
      have HPB1 := Lib.hid (HPB.out.to hle1)
      have HLE1 := Lib.hid hle1
      clear hle1 hm hone HPB
      go_upto_region 7 with (first | refine wpList_store_rowG rfl 36 (.tmp 7) (.tmp 24) rfl w1.heap.size x.row rfl rfl 36 zrow (heap_alloc_new w1 _) spu_size rfl HONE.out ?_)
      intro W2 hz2 hk2
      have hle2 : Le w1 W2 := Below.trans ((Le.refl w1).alloc _) (hk2.below (Nat.le_refl _) ((Le.refl w1).alloc _).size)
      have HPB2 := Lib.hid (HPB1.out.to hle2)
      have HLE2 := Lib.hid hle2
      have HZ2 := Lib.hid hz2
      have g2 : W2.cell? ⟨w1.heap.size, 2, none⟩ = some (.bool x.wild) := cell_cells hz2 2
      clear hz2 hk2 hle2
      by_cases hk0 : kd = 0
      · subst hk0
        obtain ⟨u, hu, hx⟩ : ∃ u, sUri l = .val u ∧ Uq (fun _ => True) w1 x u := by
          have h := HM.out
          rcases hs : sUri l with _ | _ | u
          all_goals (rw [hs] at h; first | exact ⟨_, rfl, h.2⟩ | (exfalso; simp at h))
        have HSU : Hid (sBare l = if u.wild = true then .open_ else .val [] u []) := Lib.hid (by rw [HS.out, hu])
        have HU := Lib.hid hx
        have HKEY := Lib.hid (sUri_key hu)
        rw [hx.wild] at g2
        rcases hw : u.wild with _ | _
        · rw [hw] at g2 HSU
          clear hw hu hx
          go_upto_region 9 with fail
          have hm : (Tryz.prog).follows .mixedOrders = true := by kernel_rfl
          have hne : w1.heap.size ≠ w.heap.size := by have := lt_of_heap HPB1.out.2; omega
          refine wp_region_grow (baS w.heap.size w1.heap.size x.row) (fun _ W => W.heap[w.heap.size]? = some (.cells x.row 36 (0, 0))) (baG W2 w.heap.size w1.heap.size x.row) 34 hm (by kernel_rfl) rfl rfl ?hG ((List.range 34).filter fun t => ![2, 4, 5, 33].contains t) (by kernel_rfl) ?hold ?hs ?hend
          case hG => exact ⟨(Kp.refl _ _).le (Le.refl _).drew, HZ2.out, _, rfl, HPB2.out.2⟩
          case hold =>
            intro t ht
            rw [show ((List.range 34).filter fun t => ![2, 4, 5, 33].contains t) = [0, 1, 3, 6, 7, 8, 9, 10, 11, 12, 13, 14, 15, 16, 17, 18, 19, 20, 21, 22, 23, 24, 25, 26, 27, 28, 29, 30, 31, 32] from by decide] at ht
            simp only [List.mem_cons, List.mem_nil_iff, or_false] at ht
            (repeat' (rcases ht with rfl | ht)) <;> first | exact trivial | rfl | (subst ht; exact trivial)
          case hs =>
            refine ⟨?_, ?_, ?_, ?_, ?_, trivial⟩
            · refine GrowStep.det ?_
              intro a W hg hop
              have h1 : a.eval (.tmp 7) = .pointer (some ⟨w1.heap.size, 0, none⟩) := hop 7 (by simp [Op.operands])
              refine ⟨.agg x.row, ?_, rfl⟩
              have hs := loadAt_row (P := Tryz.prog) hg.2.1 Tryz.underlying36 rfl spu_size
              simp only [execOp, h1, hs, Sem.run_bind, Sem.run_pure, Result.andThen, Sem.run_map]
            · refine GrowStep.det ?_
              intro a W hg hop
              refine ⟨.slice none 0 0, ?_, rfl⟩
              simp only [execOp]
              go_simp
            · refine GrowStep.store ?_ rfl
              intro a W hg hop
              have h1 : a.eval (.tmp 3) = .pointer (some ⟨w.heap.size, 0, none⟩) := hop 3 (by simp [Op.operands])
              have h2 : a.eval (.tmp 33) = .agg x.row := hop 33 (by simp [Op.operands])
              obtain ⟨h3, h4, cs, h5, h6⟩ := hg
              refine ⟨W.setRow w.heap.size x.row, ?_, ⟨h3.trans (kp_setRow W _ _), (setRow_other W _ _ _ hne).trans h4, x.row, rfl, setRow_heap W _ _ _ _ _ h6⟩, fun t v hv => baS_any _ _ _ t v W _ hv, fun j _ _ => setRow_heap W _ _ _ _ _ h6, setRow_heap W _ _ _ _ _ h6⟩
              have hs := run_storeVar_row (P := Tryz.prog) W w.heap.size 36 36 cs x.row h6 spu_size h5 HONE.out
              simp only [execOp, h1, h2, Instr.storeAt, Instr.sureAddr, Sem.run_bind, Sem.run_pure, Result.andThen]
              rw [hs]
            · refine GrowStep.det ?_
              intro a W hg hop
              refine ⟨.slice none 0 0, ?_, rfl⟩
              simp only [execOp]
              go_simp
            · refine GrowStep.det ?_
              intro a W hg hop
              refine ⟨.int .i64 0, ?_, rfl⟩
              simp only [execOp]
              go_simp
          case hend =>
            intro a' w' hg hd hn hS hZ
            have hz := hZ 2 _ rfl rfl
            have h2 : a'.eval (.tmp 2) = .slice none 0 0 := hS 2 (by decide)
            have h3 : a'.eval (.tmp 3) = .pointer (some ⟨w.heap.size, 0, none⟩) := hS 3 (by decide)
            have h4 : a'.eval (.tmp 4) = .slice none 0 0 := hS 4 (by decide)
            have h5 : a'.eval (.tmp 5) = .int .i64 0 := hS 5 (by decide)
            have HG := Lib.hid hg
            clear hS hZ hg
            go_wp2
            refine bodyPost_ret (v := .tuple #[.slice none 0 0, x.val, .slice none 0 0, .int .i64 0]) (sa_results rfl hz h2 h3 h4 h5) hd ⟨_, _, x, _, rfl, Below.trans HPB2.out.1 (HG.out.1.below (Nat.le_refl _) HPB2.out.1.size), HONE.out, ?_⟩
            rw [HSU.out]
            exact ⟨rfl, Bv.nil _, (HU.out.le HLE2.out).keepZ HPB2.out.2 (fun g hne hg => HG.out.1.block g hg (fun e => hne (by injection e))) HKEY.out.1 HKEY.out.2, Kq.nil _ _⟩
        · rw [hw] at g2 HSU
          have HX : Hid (sBare l = .open_) := Lib.hid (by rw [HSU.out]; rfl)
          clear hw hu hx
          go_wp2_with (first | refine wpList_build0 rfl 36 rfl (some 32) rfl zrow su_built ?_ | refine wpList_store_rowG rfl 36 (.tmp 3) (.tmp 32) rfl w.heap.size zrow rfl rfl 36 zrow HPB2.out.2 spu_size rfl zrow_one ?_)
          intro WZ hz hkz
          have HLZ : Hid (Le w WZ) := Lib.hid (Below.trans HPB2.out.1 (hkz.below (Nat.le_refl _) HPB2.out.1.size))
          have HZ := Lib.hid hz
          clear hz hkz
          go_wp2
          refine bodyPost_ret (v := .tuple #[.slice none 0 0, UV.nil.val, .slice none 0 0, .int .i64 (-2)]) ?_ rfl ⟨_, _, UV.nil, _, rfl, HLZ.out, zrow_one, by rw [HX.out]⟩
          exact sa_results rfl HZ.out rfl rfl rfl rfl
      · have HX : Hid (sBare l = .open_) := Lib.hid (by
          rw [HS.out]
          have h := HM.out
          rcases hs : sUri l with _ | _ | u
          all_goals (simp only [hs] at h; first | rfl | exact (hk0 h.1).elim))
        have hkb : (kd != 0) = true := by simpa using hk0
        clear hk0
        go_wp2_with (first | refine wpList_build0 rfl 36 rfl (some 32) rfl zrow su_built ?_ | refine wpList_store_rowG rfl 36 (.tmp 3) (.tmp 32) rfl w.heap.size zrow rfl rfl 36 zrow HPB2.out.2 spu_size rfl zrow_one ?_)
        intro WZ hz hkz
        have HLZ : Hid (Le w WZ) := Lib.hid (Below.trans HPB2.out.1 (hkz.below (Nat.le_refl _) HPB2.out.1.size))
        have HZ := Lib.hid hz
        clear hz hkz
        go_wp2
        refine bodyPost_ret (v := .tuple #[.slice none 0 0, UV.nil.val, .slice none 0 0, .int .i64 (-2)]) ?_ rfl ⟨_, _, UV.nil, _, rfl, HLZ.out, zrow_one, by rw [HX.out]⟩
        exact sa_results rfl HZ.out rfl rfl rfl rfl
end Go.Proofs.YteedhaenbamiaaaGreatDoor
