/- Contract: the specification's ParseUri (printed by gen_specparse.py). -/
import Derived.Test.YteedhaenbamiaaaGreatDoorSpW8
set_option linter.unusedVariables false
set_option linter.unusedSimpArgs false
namespace Go.Proofs.YteedhaenbamiaaaGreatDoor
open Go.RowKit

def PUPost (l : Tx) (w : World) (e : Ending) (w' : World) : Prop :=
  ∃ (x : UV) (kd : Int), e = .returned (.tuple #[x.val, .int .i64 kd]) ∧ Le w w' ∧ x.row.all (·.oneCell') = true ∧ match sUri l with | .told => kd = -1 | .open_ => kd = -2 | .val u => kd = 0 ∧ Uq (fun _ => True) w' x u
theorem pu_results {W : World} {b : Nat} {row : Array Value} {a : Act} {kd : Int} (h : W.heap[b]? = some (.cells row 36 (0, 0)))
    (h2 : a.tmps.getD 2 undef = .pointer (some ⟨b, 0, none⟩)) (h3 : a.tmps.getD 3 undef = .int .i64 kd) (hs : row.size = 10 := by rfl) :
    (results Tryz.f48 a.tmps).run Tryz.prog W = .ok (.tuple #[.agg row, .int .i64 kd]) W := by
  rw [results_cell_tmp rfl, h2, h3]
  simp only [asAddr, Sem.run_pure, Result.andThen_ok, run_loadVar_row W _ _ _ _ _ _ h Tryz.underlying36 rfl (by rw [hs]; exact spu_size)]
/-- the state: the result's block holds noughts -/
def PB (w W : World) : Prop := Le w W ∧ W.heap[w.heap.size]? = some (.cells zrow 36 (0, 0))
theorem PB.to {w W W' : World} (h : PB w W) (k : Le W W') : PB w W' := ⟨Le.trans h.1 k, k.heap h.2⟩
theorem sUri_open {l : Tx} (h0 : l ≠ []) (h1 : l ≠ [42]) (h : (0 < ixOf l 58 && decide (ixOf l 58 < l.length) && (l.take (ixOf l 58)).all isAl) = false) : sUri l = .open_ := by
  unfold sUri; rw [if_neg h0, if_neg h1]; simp only [h]; rfl
theorem sUri_in {l : Tx} {k : Nat} (h0 : l ≠ []) (h1 : l ≠ [42]) (hk : ixOf l 58 = k) (h2 : 0 < k) (h3 : k < l.length) (h4 : (l.take k).all isAl = true) : sUri l =
    (if (l.take k).map lowC ≠ sSip ∧ (l.take k).map lowC ≠ sSips then (if !(l.drop (k + 1)).isEmpty && prB (l.drop (k + 1)) && !((l.drop (k + 1)).head? == some 47) && decide ((l.take k).map lowC = l.take k) then .val { PU.zero with scheme := l.take k, raw := l.drop (k + 1) } else .open_)
      else if (l.take k).map lowC ≠ l.take k then .open_ else if [47, 47].isPrefixOf (l.drop (k + 1)) then .open_ else SR.of (sSipUri (l.take k) (l.drop (k + 1)))) := by
  unfold sUri; rw [if_neg h0, if_neg h1]
  simp only [hk, h2, h3, h4, decide_true, Bool.and_true, if_true]
theorem pre2 {l : Tx} (h : 1 < l.length) : [47, 47].isPrefixOf l = (decide (l[0] = UInt8.ofNat 47) && decide (l[1] = UInt8.ofNat 47)) := by
  match l, h with
  | a :: b :: r, _ =>
    show (47 == a && (47 == b && true)) = (decide (a = 47) && decide (b = 47))
    rw [Bool.and_true]
    congr 1
    · by_cases e : a = 47
      · subst e; rfl
      · rw [decide_eq_false e]; simpa using fun h => e h.symm
    · by_cases e : b = 47
      · subst e; rfl
      · rw [decide_eq_false e]; simpa using fun h => e h.symm
theorem pre2_short {l : Tx} (h : ¬ 1 < l.length) : [47, 47].isPrefixOf l = false := by
  match l, h with
  | [], _ => rfl
  | [a], _ => show (47 == a && false) = false; rw [Bool.and_false]
  | _ :: _ :: _, h => simp at h
theorem star_one (a : Option Addr) (m c : Nat) : (#[(.slice none 0 0), (.slice none 0 0), .bool true, .bool false, (.slice none 0 0), (.slice none 0 0), .slice a m c, .int .i64 0, (.slice none 0 0), (.slice none 0 0)] : Array Value).all (·.oneCell') = true := by
  simp only [List.all_toArray, List.all_cons, List.all_nil]; rfl
theorem raw_one (a b : Option Addr) (m c m' c' : Nat) : (#[.slice a m c, .slice b m' c', .bool false, .bool false, (.slice none 0 0), (.slice none 0 0), (.slice none 0 0), .int .i64 0, (.slice none 0 0), (.slice none 0 0)] : Array Value).all (·.oneCell') = true := by
  simp only [List.all_toArray, List.all_cons, List.all_nil]; rfl
theorem Bv.at' {w : World} {A : Option Addr} {n c : Nat} {l : Tx} (h : Bv w (.slice A n c) l) {k : Nat} (hk : k < l.length) : ∃ b o, A = some ⟨b, o, none⟩ ∧ w.cell? ⟨b, o + k, none⟩ = some (.int .u8 (l[k].toNat : Int)) := by
  obtain ⟨A', c', e, _, _, h4⟩ := h
  injection e with e1 _ _
  subst e1
  exact h4.at_ hk
theorem isSame_x (u v : Value) (a b : Tx) (w : World) (r : Bool) (hr : decide (a = b) = r) (hu : Bv w u a) (hv : Bv w v b) : Calls Tryz.prog 57 #[u, v] w fun e w' => e = .returned (.bool r) ∧ w = w' := by
  subst hr; exact isSame_c u v a b w hu hv

set_option maxRecDepth 8000 in
set_option maxHeartbeats 20000000 in
theorem parse_c (v : Value) (l : Tx) (w : World) (hv : Bv w v l) (hl : l.length ≤ 1099511627000) :
    Calls Tryz.prog 48 #[v] w (PUPost l w) := by
  have HV := Lib.hid hv
  obtain ⟨A0, c0, rfl, hl0⟩ := bv_slice hv
  have hlc : l.length ≤ c0 := by obtain ⟨_, _, e, h, _⟩ := hv; injection e with _ _ e; omega
  clear hv
  have kc := fun (w : World) (C : Array Value) (n c : Nat) => Lib.run_convert_bytes_const (P := Tryz.prog) w 22 5 C n c Tryz.underlying22 Tryz.underlying5
  go_enter Tryz.func48, Tryz.ntmps48
  go_upto_if 11 with fail
  have HPB : Hid (PB w (w.alloc (Obj.cells zrow 36))) := Lib.hid ⟨(Le.refl w).alloc _, heap_alloc_new w _⟩
  have hzr : zrow = #[(.slice none 0 0), (.slice none 0 0), .bool false, .bool false, (.slice none 0 0), (.slice none 0 0), (.slice none 0 0), .int .i64 0, (.slice none 0 0), (.slice none 0 0)] := rfl
  rw [hzr] at HPB
  generalize w.alloc (Obj.cells #[(.slice none 0 0), (.slice none 0 0), .bool false, .bool false, (.slice none 0 0), (.slice none 0 0), (.slice none 0 0), .int .i64 0, (.slice none 0 0), (.slice none 0 0)] 36) = W0 at HPB ⊢
  clear hzr
  by_cases h0 : l = []
  · have H0 := Lib.hid h0
    have hl00 : ((l.length : Int) == 0) = true := by rw [h0]; rfl
    clear h0
    go_upto_if 11 with fail
    go_wp2_with (refine wpList_build0 rfl 36 rfl (some 12) rfl zrow su_built ?_; refine wpList_store_rowG rfl 36 (.tmp 2) (.tmp 12) rfl w.heap.size zrow rfl rfl 36 zrow HPB.out.2 spu_size rfl zrow_one ?_)
    intro WZ hz hkz
    have HF : Hid (sUri l = .told) := Lib.hid (by unfold sUri; rw [if_pos H0.out])
    have HLZ : Hid (Le w WZ) := Lib.hid (Below.trans HPB.out.1 (hkz.below (Nat.le_refl _) HPB.out.1.size))
    have HZ := Lib.hid hz
    clear hz hkz
    go_wp2
    refine bodyPost_ret (v := .tuple #[UV.nil.val, .int .i64 (-1)]) ?_ rfl ⟨UV.nil, (-1), rfl, HLZ.out, zrow_one, by rw [HF.out]⟩
    exact pu_results HZ.out rfl rfl
  have H0 := Lib.hid h0
  have hpos : 0 < l.length := List.length_pos_iff.2 h0
  have hl00 : ((l.length : Int) == 0) = false := by simp; omega
  clear h0
  -- the sign of all
  have hb42 : Bv (W0.alloc (Obj.cells #[.int .u8 42] 5 (1, 2))) (.slice (some ⟨W0.heap.size, 0, none⟩) 1 1) [42] := bv_lit W0 [42] (by decide) (1, 2)
  have HPB1 : Hid (PB w (W0.alloc (Obj.cells #[.int .u8 42] 5 (1, 2)))) := Lib.hid (HPB.out.to ((Le.refl W0).alloc _))
  obtain ⟨r42, hr42⟩ : ∃ r, decide (l = [42]) = r := ⟨_, rfl⟩
  have H42 := Lib.hid hr42
  have is42 := isSame_x _ _ l [42] _ r42 hr42 (HV.out.le HPB1.out.1) hb42
  clear hr42 hb42
  go_wp2_with fail
  refine is42.mono ?_
  rintro e w' ⟨rfl, rfl⟩
  clear is42 HPB
  generalize W0.alloc (Obj.cells #[.int .u8 42] 5 (1, 2)) = W1 at HPB1 ⊢
  have HPB := HPB1
  clear HPB1
  cases r42
  case true =>
    have hb42 : Bv (W1.alloc (Obj.cells #[.int .u8 42] 5 (1, 2))) (.slice (some ⟨W1.heap.size, 0, none⟩) 1 1) [42] := bv_lit W1 [42] (by decide) (1, 2)
    have HB42 := Lib.hid hb42
    have HPB2 : Hid (PB w (W1.alloc (Obj.cells #[.int .u8 42] 5 (1, 2)))) := Lib.hid (HPB.out.to ((Le.refl W1).alloc _))
    have HF : Hid (sUri l = .val { PU.zero with host := [42], wild := true }) := Lib.hid (by unfold sUri; rw [if_neg H0.out, if_pos (of_decide_eq_true H42.out)])
    clear hb42
    go_wp2_with (refine wpList_store_rowG rfl 36 (.tmp 2) (.tmp 19) rfl w.heap.size #[(.slice none 0 0), (.slice none 0 0), .bool true, .bool false, (.slice none 0 0), (.slice none 0 0), .slice (some ⟨W1.heap.size, 0, none⟩) 1 1, .int .i64 0, (.slice none 0 0), (.slice none 0 0)] rfl rfl 36 zrow HPB2.out.2 spu_size rfl (star_one _ _ _) ?_)
    intro WZ hz hkz
    have hne : w.heap.size < W1.heap.size := lt_of_heap HPB.out.2
    have HLZ : Hid (Le w WZ) := Lib.hid (Below.trans HPB2.out.1 (hkz.below (Nat.le_refl _) HPB2.out.1.size))
    have HBZ : Hid (Bv WZ (.slice (some ⟨W1.heap.size, 0, none⟩) 1 1) [42]) := Lib.hid ((Bq.keep (φ := (· = W1.heap.size)) ⟨HB42.out, fun g hg => by injection hg with hg; exact hg.symm⟩ (fun g hg hlt => hkz.block g hlt (by intro e; injection e with e; omega))).1)
    have HZ := Lib.hid hz
    clear hz hkz
    go_wp2
    refine bodyPost_ret (v := .tuple #[.agg #[(.slice none 0 0), (.slice none 0 0), .bool true, .bool false, (.slice none 0 0), (.slice none 0 0), .slice (some ⟨W1.heap.size, 0, none⟩) 1 1, .int .i64 0, (.slice none 0 0), (.slice none 0 0)], .int .i64 0]) ?_ rfl ⟨⟨(.slice none 0 0), (.slice none 0 0), true, false, (.slice none 0 0), (.slice none 0 0), .slice (some ⟨W1.heap.size, 0, none⟩) 1 1, 0, (.slice none 0 0), (.slice none 0 0)⟩, 0, rfl, HLZ.out, star_one _ _ _, ?_⟩
    · exact pu_results HZ.out rfl rfl
    · rw [HF.out]
      exact ⟨rfl, Bq.nil _ _, Bq.nil _ _, rfl, rfl, Bq.nil _ _, Bq.nil _ _, bqT HBZ.out, rfl, Kq.nil _ _, Kq.nil _ _⟩
  have H1 : Hid (l ≠ [42]) := Lib.hid (of_decide_eq_false H42.out)
  clear H42
  have ci := indexOf_c _ l 58 W1 (HV.out.le HPB.out.1)
  have CI := Lib.hid ci
  clear ci
  go_wp2_with fail
  refine CI.out.mono ?_
  rintro e w' ⟨rfl, rfl⟩
  clear CI
  rcases ixI_cases l 58 with ⟨k, e1, hk, e2⟩ | ⟨e1, e2⟩
  case inr =>
    rw [e1]
    have HX : Hid ((0 < ixOf l 58 && decide (ixOf l 58 < l.length) && (l.take (ixOf l 58)).all isAl) = false) := Lib.hid (by simp [e2])
    clear e1 e2
    go_upto_if 30 with fail
    go_wp2_with (refine wpList_build0 rfl 36 rfl (some 31) rfl zrow su_built ?_; refine wpList_store_rowG rfl 36 (.tmp 2) (.tmp 31) rfl w.heap.size zrow rfl rfl 36 zrow HPB.out.2 spu_size rfl zrow_one ?_)
    intro WZ hz hkz
    have HF : Hid (sUri l = .open_) := Lib.hid (sUri_open H0.out H1.out HX.out)
    have HLZ : Hid (Le w WZ) := Lib.hid (Below.trans HPB.out.1 (hkz.below (Nat.le_refl _) HPB.out.1.size))
    have HZ := Lib.hid hz
    clear hz hkz
    go_wp2
    refine bodyPost_ret (v := .tuple #[UV.nil.val, .int .i64 (-2)]) ?_ rfl ⟨UV.nil, (-2), rfl, HLZ.out, zrow_one, by rw [HF.out]⟩
    exact pu_results HZ.out rfl rfl
  rw [e1]
  have HK := Lib.hid e2
  by_cases hk0 : k = 0
  · subst hk0
    have HX : Hid ((0 < ixOf l 58 && decide (ixOf l 58 < l.length) && (l.take (ixOf l 58)).all isAl) = false) := Lib.hid (by simp [e2])
    clear e1 e2
    go_upto_if 30 with fail
    go_wp2_with (refine wpList_build0 rfl 36 rfl (some 31) rfl zrow su_built ?_; refine wpList_store_rowG rfl 36 (.tmp 2) (.tmp 31) rfl w.heap.size zrow rfl rfl 36 zrow HPB.out.2 spu_size rfl zrow_one ?_)
    intro WZ hz hkz
    have HF : Hid (sUri l = .open_) := Lib.hid (sUri_open H0.out H1.out HX.out)
    have HLZ : Hid (Le w WZ) := Lib.hid (Below.trans HPB.out.1 (hkz.below (Nat.le_refl _) HPB.out.1.size))
    have HZ := Lib.hid hz
    clear hz hkz
    go_wp2
    refine bodyPost_ret (v := .tuple #[UV.nil.val, .int .i64 (-2)]) ?_ rfl ⟨UV.nil, (-2), rfl, HLZ.out, zrow_one, by rw [HF.out]⟩
    exact pu_results HZ.out rfl rfl
  clear e1 e2
  have hk1 : 1 ≤ k := by omega
  clear hk0
  obtain ⟨b0, o0, rfl, d0⟩ := HV.out.at' hpos
  have a0 := alB_byte l[0]
  rw [Nat.add_zero] at d0
  have d0 := HPB.out.1.cell d0
  obtain ⟨r0, hr0⟩ : ∃ r, isAl l[0] = r := ⟨_, rfl⟩
  rw [hr0] at a0
  have HR0 := Lib.hid hr0
  clear hr0
  generalize (l[0].toNat : Int) = x0 at d0 a0
  cases r0
  · have HX : Hid ((0 < ixOf l 58 && decide (ixOf l 58 < l.length) && (l.take (ixOf l 58)).all isAl) = false) := Lib.hid (by
      have hm : l[0] ∈ l.take (ixOf l 58) := by rw [List.mem_take_iff_getElem]; exact ⟨0, by rw [HK.out]; omega, rfl⟩
      have : (l.take (ixOf l 58)).all isAl = false := List.all_eq_false.2 ⟨_, hm, by rw [HR0.out]; decide⟩
      rw [this, Bool.and_false])
    go_wp2_with fail
    refine (isLetterI _ _).mono ?_
    rintro e w' ⟨rfl, rfl⟩
    rw [a0]
    go_upto_if 30 with fail
    go_wp2_with (refine wpList_build0 rfl 36 rfl (some 31) rfl zrow su_built ?_; refine wpList_store_rowG rfl 36 (.tmp 2) (.tmp 31) rfl w.heap.size zrow rfl rfl 36 zrow HPB.out.2 spu_size rfl zrow_one ?_)
    intro WZ hz hkz
    have HF : Hid (sUri l = .open_) := Lib.hid (sUri_open H0.out H1.out HX.out)
    have HLZ : Hid (Le w WZ) := Lib.hid (Below.trans HPB.out.1 (hkz.below (Nat.le_refl _) HPB.out.1.size))
    have HZ := Lib.hid hz
    clear hz hkz
    go_wp2
    refine bodyPost_ret (v := .tuple #[UV.nil.val, .int .i64 (-2)]) ?_ rfl ⟨UV.nil, (-2), rfl, HLZ.out, zrow_one, by rw [HF.out]⟩
    exact pu_results HZ.out rfl rfl
  go_wp2_with fail
  refine (isLetterI _ _).mono ?_
  rintro e w' ⟨rfl, rfl⟩
  rw [a0]
  clear d0 a0
  go_wp2
  go_loop [5] (fun i => ∃ j : Nat, j ≤ k ∧ i = .int .i64 j ∧ (l.take j).all isAl = true) (fun i => k - (intOf i).toNat)
  case atStart => exact ⟨0, by omega, rfl, rfl⟩
  case round =>
    obtain ⟨j, hj, rfl, hq⟩ := hrel
    have HQ := Lib.hid hq
    clear hq
    by_cases hlt : j < k
    · obtain ⟨b0', o0', e', d1⟩ := HV.out.at' (k := j) (by omega)
      obtain ⟨rfl, rfl⟩ : b0 = b0' ∧ o0 = o0' := by injection e' with e'; injection e' with e1 e2; exact ⟨e1, e2⟩
      clear e'
      have d1 := HPB.out.1.cell d1
      have hjl : j < l.length := by omega
      have a1 := alB_byte l[j]
      obtain ⟨r1, hr1⟩ : ∃ r, isAl l[j] = r := ⟨_, rfl⟩
      rw [hr1] at a1
      have HR1 := Lib.hid hr1
      clear hr1
      generalize (l[j].toNat : Int) = x1 at d1 a1
      cases r1
      · have HX : Hid ((0 < ixOf l 58 && decide (ixOf l 58 < l.length) && (l.take (ixOf l 58)).all isAl) = false) := Lib.hid (by
          have hm : l[j] ∈ l.take (ixOf l 58) := by rw [List.mem_take_iff_getElem]; exact ⟨j, by rw [HK.out]; omega, rfl⟩
          have : (l.take (ixOf l 58)).all isAl = false := List.all_eq_false.2 ⟨_, hm, by rw [HR1.out]; decide⟩
          rw [this, Bool.and_false])
        go_wp2_with fail
        refine (isLetterI _ _).mono ?_
        rintro e w' ⟨rfl, rfl⟩
        rw [a1]
        go_upto_if 42 with fail
        go_wp2_with (refine wpList_build0 rfl 36 rfl (some 43) rfl zrow su_built ?_; refine wpList_store_rowG rfl 36 (.tmp 2) (.tmp 43) rfl w.heap.size zrow rfl rfl 36 zrow HPB.out.2 spu_size rfl zrow_one ?_)
        intro WZ hz hkz
        have HF : Hid (sUri l = .open_) := Lib.hid (sUri_open H0.out H1.out HX.out)
        have HLZ : Hid (Le w WZ) := Lib.hid (Below.trans HPB.out.1 (hkz.below (Nat.le_refl _) HPB.out.1.size))
        have HZ := Lib.hid hz
        clear hz hkz
        go_wp2
        refine bodyPost_ret (v := .tuple #[UV.nil.val, .int .i64 (-2)]) ?_ rfl ⟨UV.nil, (-2), rfl, HLZ.out, zrow_one, by rw [HF.out]⟩
        exact pu_results HZ.out rfl rfl
      · have HX : Hid ((l.take (j + 1)).all isAl = true) := Lib.hid (by rw [List.take_succ_eq_append_getElem hjl, List.all_append, HQ.out]; simpa using HR1.out)
        go_wp2_with fail
        refine (isLetterI _ _).mono ?_
        rintro e w' ⟨rfl, rfl⟩
        rw [a1]
        go_wp2
        go_round
        case rel => exact ⟨j + 1, by omega, by go_num, HX.out⟩
        case measure => simp [intOf]; omega
    · obtain rfl : j = k := by omega
      clear hlt hj
      have HSI := Lib.hid (sUri_in H0.out H1.out HK.out hk1 hk HQ.out)
      obtain ⟨v2, hb2, q1, q2⟩ := cut_from (k := j + 1) (z := (j : Int) + 1) HV.out hk (by omega)
      obtain ⟨A2, c2, hv2, hml⟩ := bv_slice hb2
      have hmm : (l.drop (j + 1)).length ≤ 1099511627000 := by rw [List.length_drop]; omega
      generalize hm2 : (l.drop (j + 1)).length = m2 at hv2 hml hmm
      subst hv2
      have HM2 := Lib.hid hm2
      have HBR := Lib.hid hb2
      have HBS := Lib.hid (cut_to (k := j) HV.out (by omega) (Nat.le_refl j) (by omega))
      clear hb2 hm2
      go_wp2_with fail
      have HPB2 : Hid (PB w (W1.alloc (Obj.cells (rowU (.slice (some ⟨b0, o0, none⟩) j j) (.slice none 0 0) (.slice none 0 0) (.slice none 0 0) 0 (.slice none 0 0) (.slice none 0 0)) 36))) := Lib.hid (HPB.out.to ((Le.refl W1).alloc _))
      have HBU : Hid ((W1.alloc (Obj.cells (rowU (.slice (some ⟨b0, o0, none⟩) j j) (.slice none 0 0) (.slice none 0 0) (.slice none 0 0) 0 (.slice none 0 0) (.slice none 0 0)) 36)).heap[W1.heap.size]? = some (.cells (rowU (.slice (some ⟨b0, o0, none⟩) j j) (.slice none 0 0) (.slice none 0 0) (.slice none 0 0) 0 (.slice none 0 0) (.slice none 0 0)) 36 (0, 0))) := Lib.hid (heap_alloc_new W1 _)
      have HLT : Hid (w.heap.size < W1.heap.size) := Lib.hid (lt_of_heap HPB.out.2)
      have hru : rowU (.slice (some ⟨b0, o0, none⟩) j j) (.slice none 0 0) (.slice none 0 0) (.slice none 0 0) 0 (.slice none 0 0) (.slice none 0 0) = #[(.slice (some ⟨b0, o0, none⟩) j j), (.slice none 0 0), .bool false, .bool false, (.slice none 0 0), (.slice none 0 0), (.slice none 0 0), .int .i64 0, (.slice none 0 0), (.slice none 0 0)] := rfl
      rw [hru] at HPB2 HBU
      generalize W1.alloc (Obj.cells #[(.slice (some ⟨b0, o0, none⟩) j j), (.slice none 0 0), .bool false, .bool false, (.slice none 0 0), (.slice none 0 0), (.slice none 0 0), .int .i64 0, (.slice none 0 0), (.slice none 0 0)] 36) = W2 at HPB2 HBU ⊢
      rw [← hru] at HBU
      clear hru HPB
      refine (lowered_c _ (l.take j) W2 (HBS.out.le HPB2.out.1)).mono ?_
      rintro e w3 ⟨lv, rfl, hown, hle3⟩
      have hlv := hown.bv (by rw [List.length_map, List.length_take]; omega)
      have HLV3 := Lib.hid hlv
      have HPB3 := Lib.hid (HPB2.out.to hle3)
      have HBU3 := Lib.hid (hle3.heap HBU.out)
      clear hown hlv hle3 HPB2 HBU
      -- 'sip'
      have hbs : Bv (w3.alloc (Obj.cells #[.int .u8 115, .int .u8 105, .int .u8 112] 5 (3, 4))) (.slice (some ⟨w3.heap.size, 0, none⟩) 3 3) sSip := bv_lit w3 sSip (by decide) (3, 4)
      have hal3 : Le w3 (w3.alloc (Obj.cells #[.int .u8 115, .int .u8 105, .int .u8 112] 5 (3, 4))) := (Le.refl w3).alloc _
      have HPB4 := Lib.hid (HPB3.out.to hal3)
      have HBU4 := Lib.hid (hal3.heap HBU3.out)
      have HLV4 := Lib.hid (HLV3.out.le hal3)
      obtain ⟨r1, hr1⟩ : ∃ r, decide ((l.take j).map lowC = sSip) = r := ⟨_, rfl⟩
      have HR1 := Lib.hid hr1
      have is1 := isSame_x _ _ _ sSip _ r1 hr1 HLV4.out hbs
      clear hr1 hbs hal3
      go_wp2_with fail
      refine is1.mono ?_
      rintro e w' ⟨rfl, rfl⟩
      clear is1 HPB3 HBU3 HLV3
      generalize w3.alloc (Obj.cells #[.int .u8 115, .int .u8 105, .int .u8 112] 5 (3, 4)) = W4 at HPB4 HBU4 HLV4 ⊢
      cases r1
      case true =>
        have HOR : Hid (¬ ((l.take j).map lowC ≠ sSip ∧ (l.take j).map lowC ≠ sSips)) := Lib.hid fun h => h.1 (of_decide_eq_true HR1.out)
        have HPB := HPB4
        have HBU := HBU4
        have HLV := HLV4
        clear HPB4 HBU4 HLV4
        generalize W4 = WC at HPB HBU HLV ⊢
        have y0 : WC.cell? ⟨W1.heap.size, 0, none⟩ = some (.slice (some ⟨b0, o0, none⟩) j j) := cell_cells HBU.out 0
        obtain ⟨r3, hr3⟩ : ∃ r, decide ((l.take j).map lowC = l.take j) = r := ⟨_, rfl⟩
        have HR3 := Lib.hid hr3
        have is3 := isSame_x _ _ _ _ WC r3 hr3 HLV.out (HBS.out.le HPB.out.1)
        have IS3 := Lib.hid is3
        clear hr3 is3
        go_wp2_with fail
        refine IS3.out.mono ?_
        rintro e w' ⟨rfl, rfl⟩
        cases r3
        · have HX : Hid (sUri l = .open_) := Lib.hid (by rw [HSI.out, if_neg HOR.out, if_pos (of_decide_eq_false HR3.out)])
          go_upto_if 97 with fail
          go_wp2_with (refine wpList_build0 rfl 36 rfl (some 98) rfl zrow su_built ?_; refine wpList_store_rowG rfl 36 (.tmp 2) (.tmp 98) rfl w.heap.size zrow rfl rfl 36 zrow HPB.out.2 spu_size rfl zrow_one ?_)
          intro WZ hz hkz
          have HF : Hid (sUri l = .open_) := Lib.hid (HX.out)
          have HLZ : Hid (Le w WZ) := Lib.hid (Below.trans HPB.out.1 (hkz.below (Nat.le_refl _) HPB.out.1.size))
          have HZ := Lib.hid hz
          clear hz hkz
          go_wp2
          refine bodyPost_ret (v := .tuple #[UV.nil.val, .int .i64 (-2)]) ?_ rfl ⟨UV.nil, (-2), rfl, HLZ.out, zrow_one, by rw [HF.out]⟩
          exact pu_results HZ.out rfl rfl
        have HSI2 : Hid (sUri l = if [47, 47].isPrefixOf (l.drop (j + 1)) then .open_ else SR.of (sSipUri (l.take j) (l.drop (j + 1)))) := Lib.hid (by rw [HSI.out, if_neg HOR.out, if_neg (fun h => h (of_decide_eq_true HR3.out))])
        clear HSI HR3
        go_upto_region 23 with fail
        go_cut [113] from 99 (fun s113 wx => wx = WC ∧ s113 = .bool ([47, 47].isPrefixOf (l.drop (j + 1))))
        case first =>
          by_cases hm1 : 1 < m2
          · have hm1' : 1 < (l.drop (j + 1)).length := by rw [HM2.out]; exact hm1
            obtain ⟨g2, o2, rfl, d1⟩ := HBR.out.at' (k := 0) (by omega)
            obtain ⟨g3, o3, e', d2⟩ := HBR.out.at' (k := 1) hm1'
            obtain ⟨rfl, rfl⟩ : g2 = g3 ∧ o2 = o3 := by injection e' with e'; injection e' with e1 e2; exact ⟨e1, e2⟩
            clear e'
            rw [Nat.add_zero] at d1
            have d1 := HPB.out.1.cell d1
            have d2 := HPB.out.1.cell d2
            have HPX := Lib.hid (pre2 hm1')
            have a1 := byte_eqn ((l.drop (j + 1))[0]'(by omega)) 47 (by omega)
            have a2 := byte_eqn (l.drop (j + 1))[1] 47 (by omega)
            obtain ⟨t1, ht1⟩ : ∃ t, decide ((l.drop (j + 1))[0]'(by omega) = UInt8.ofNat 47) = t := ⟨_, rfl⟩
            obtain ⟨t2, ht2⟩ : ∃ t, decide ((l.drop (j + 1))[1] = UInt8.ofNat 47) = t := ⟨_, rfl⟩
            have HP2 : Hid ([47, 47].isPrefixOf (l.drop (j + 1)) = (t1 && t2)) := Lib.hid (by rw [HPX.out, ht1, ht2])
            rw [ht1] at a1
            rw [ht2] at a2
            clear ht1 ht2 HPX
            generalize (((l.drop (j + 1))[0]'(by omega)).toNat : Int) = x1 at d1 a1
            generalize ((l.drop (j + 1))[1].toNat : Int) = x2 at d2 a2
            have a1' : (x1 == 47) = t1 := a1
            have a2' : (x2 == 47) = t2 := a2
            clear a1 a2
            cases t1
            · go_wp2
              go_meet
              case rel => exact ⟨rfl, by rw [HP2.out]; rfl⟩
            · cases t2
              · go_wp2
                go_meet
                case rel => exact ⟨rfl, by rw [HP2.out]; rfl⟩
              · go_wp2
                go_meet
                case rel => exact ⟨rfl, by rw [HP2.out]; rfl⟩
          · have HP2 : Hid ([47, 47].isPrefixOf (l.drop (j + 1)) = false) := Lib.hid (pre2_short (by rw [HM2.out]; omega))
            have hm1' : (m2 : Int) ≤ 1 := by omega
            go_wp2
            go_meet
            case rel => exact ⟨rfl, by rw [HP2.out]⟩
        case rest =>
          obtain ⟨rfl, rfl⟩ := hcut
          obtain ⟨pf, hpf⟩ : ∃ p, [47, 47].isPrefixOf (l.drop (j + 1)) = p := ⟨_, rfl⟩
          rw [hpf]
          have HPX := Lib.hid hpf
          clear hpf
          cases pf
          case true =>
            have HX : Hid (sUri l = .open_) := Lib.hid (by rw [HSI2.out, HPX.out]; rfl)
            go_upto_if 113 with fail
            go_wp2_with (refine wpList_build0 rfl 36 rfl (some 114) rfl zrow su_built ?_; refine wpList_store_rowG rfl 36 (.tmp 2) (.tmp 114) rfl w.heap.size zrow rfl rfl 36 zrow HPB.out.2 spu_size rfl zrow_one ?_)
            intro WZ hz hkz
            have HF : Hid (sUri l = .open_) := Lib.hid (HX.out)
            have HLZ : Hid (Le w WZ) := Lib.hid (Below.trans HPB.out.1 (hkz.below (Nat.le_refl _) HPB.out.1.size))
            have HZ := Lib.hid hz
            clear hz hkz
            go_wp2
            refine bodyPost_ret (v := .tuple #[UV.nil.val, .int .i64 (-2)]) ?_ rfl ⟨UV.nil, (-2), rfl, HLZ.out, zrow_one, by rw [HF.out]⟩
            exact pu_results HZ.out rfl rfl
          have HSI3 : Hid (sUri l = SR.of (sSipUri (l.take j) (l.drop (j + 1)))) := Lib.hid (by rw [HSI2.out, HPX.out]; rfl)
          clear HSI2 HPX y0
          go_wp2_with (refine wpList_load_row rfl 36 (.tmp 6) rfl W1.heap.size rfl 36 (rowU (.slice (some ⟨b0, o0, none⟩) j j) (.slice none 0 0) (.slice none 0 0) (.slice none 0 0) 0 (.slice none 0 0) (.slice none 0 0)) (0, 0) _ HBU.out Tryz.underlying36 rfl spu_size ?_)
          refine (sipUri_c _ (.slice (some ⟨b0, o0, none⟩) j j) (l.take j) (l.drop (j + 1)) w _ HPB.out.1 HBS.out HBR.out (by rw [HM2.out]; omega)).mono ?_
          rintro e w6 ⟨x, kd, rfl, hle6, hone, hmt⟩
          have HPB6 := Lib.hid (HPB.out.to hle6)
          have HMT := Lib.hid hmt
          obtain ⟨R, hR, hRs⟩ : ∃ R, x.val = .agg R ∧ R = x.row := ⟨_, rfl, rfl⟩
          have hsz : R.size = 10 := by rw [hRs]; rfl
          have HONE := Lib.hid hone
          rw [← hRs] at hone
          have HR := Lib.hid hR
          rw [hR]
          clear hle6 hmt hR hRs
          go_wp2_with (refine wpList_store_rowG rfl 36 (.tmp 2) (.tmp 118) rfl w.heap.size R rfl rfl 36 zrow HPB6.out.2 (by rw [hsz]; exact spu_size) hsz.symm hone ?_)
          intro WZ hz hkz
          have HLZ : Hid (Le w WZ) := Lib.hid (Below.trans HPB6.out.1 (hkz.below (Nat.le_refl _) HPB6.out.1.size))
          have HKZ := Lib.hid hkz
          have HZ := Lib.hid hz
          clear hz hkz
          go_wp2
          refine bodyPost_ret (v := .tuple #[.agg R, .int .i64 kd]) (pu_results HZ.out rfl rfl hsz) rfl ⟨x, kd, by rw [← HR.out], HLZ.out, HONE.out, ?_⟩
          rw [HSI3.out]
          have hm := HMT.out
          cases hS : sSipUri (l.take j) (l.drop (j + 1)) with
          | none => rw [hS] at hm; exact hm
          | some u =>
            rw [hS] at hm
            obtain ⟨h1, h2⟩ := hm
            have hlt := lt_of_heap HPB.out.2
            exact ⟨h1, bqT (h2.scheme.le HLZ.out), bqT (h2.raw.le HLZ.out), h2.wild, h2.slash, bqT (h2.user.le HLZ.out), bqT (h2.pass.le HLZ.out), bqT (h2.host.le HLZ.out), h2.port, (h2.ps.kp HKZ.out (by omega)).kq HLZ.out h2.pl, (h2.hs.kp HKZ.out (by omega)).kq HLZ.out h2.hl⟩
      case false =>
        have hbs : Bv (W4.alloc (Obj.cells #[.int .u8 115, .int .u8 105, .int .u8 112, .int .u8 115] 5 (4, 5))) (.slice (some ⟨W4.heap.size, 0, none⟩) 4 4) sSips := bv_lit W4 sSips (by decide) (4, 5)
        have hal4 : Le W4 (W4.alloc (Obj.cells #[.int .u8 115, .int .u8 105, .int .u8 112, .int .u8 115] 5 (4, 5))) := (Le.refl W4).alloc _
        have HPB := Lib.hid (HPB4.out.to hal4)
        have HBU := Lib.hid (hal4.heap HBU4.out)
        have HLV := Lib.hid (HLV4.out.le hal4)
        obtain ⟨r2, hr2⟩ : ∃ r, decide ((l.take j).map lowC = sSips) = r := ⟨_, rfl⟩
        have HR2 := Lib.hid hr2
        have is2 := isSame_x _ _ _ sSips _ r2 hr2 HLV.out hbs
        clear hr2 hbs hal4
        go_wp2_with fail
        refine is2.mono ?_
        rintro e w' ⟨rfl, rfl⟩
        clear is2 HPB4 HBU4 HLV4
        generalize W4.alloc (Obj.cells #[.int .u8 115, .int .u8 105, .int .u8 112, .int .u8 115] 5 (4, 5)) = WC at HPB HBU HLV ⊢
        cases r2
        case true =>
          have HOR : Hid (¬ ((l.take j).map lowC ≠ sSip ∧ (l.take j).map lowC ≠ sSips)) := Lib.hid fun h => h.2 (of_decide_eq_true HR2.out)
          have y0 : WC.cell? ⟨W1.heap.size, 0, none⟩ = some (.slice (some ⟨b0, o0, none⟩) j j) := cell_cells HBU.out 0
          obtain ⟨r3, hr3⟩ : ∃ r, decide ((l.take j).map lowC = l.take j) = r := ⟨_, rfl⟩
          have HR3 := Lib.hid hr3
          have is3 := isSame_x _ _ _ _ WC r3 hr3 HLV.out (HBS.out.le HPB.out.1)
          have IS3 := Lib.hid is3
          clear hr3 is3
          go_wp2_with fail
          refine IS3.out.mono ?_
          rintro e w' ⟨rfl, rfl⟩
          cases r3
          · have HX : Hid (sUri l = .open_) := Lib.hid (by rw [HSI.out, if_neg HOR.out, if_pos (of_decide_eq_false HR3.out)])
            go_upto_if 97 with fail
            go_wp2_with (refine wpList_build0 rfl 36 rfl (some 98) rfl zrow su_built ?_; refine wpList_store_rowG rfl 36 (.tmp 2) (.tmp 98) rfl w.heap.size zrow rfl rfl 36 zrow HPB.out.2 spu_size rfl zrow_one ?_)
            intro WZ hz hkz
            have HF : Hid (sUri l = .open_) := Lib.hid (HX.out)
            have HLZ : Hid (Le w WZ) := Lib.hid (Below.trans HPB.out.1 (hkz.below (Nat.le_refl _) HPB.out.1.size))
            have HZ := Lib.hid hz
            clear hz hkz
            go_wp2
            refine bodyPost_ret (v := .tuple #[UV.nil.val, .int .i64 (-2)]) ?_ rfl ⟨UV.nil, (-2), rfl, HLZ.out, zrow_one, by rw [HF.out]⟩
            exact pu_results HZ.out rfl rfl
          have HSI2 : Hid (sUri l = if [47, 47].isPrefixOf (l.drop (j + 1)) then .open_ else SR.of (sSipUri (l.take j) (l.drop (j + 1)))) := Lib.hid (by rw [HSI.out, if_neg HOR.out, if_neg (fun h => h (of_decide_eq_true HR3.out))])
          clear HSI HR3
          go_upto_region 23 with fail
          go_cut [113] from 99 (fun s113 wx => wx = WC ∧ s113 = .bool ([47, 47].isPrefixOf (l.drop (j + 1))))
          case first =>
            by_cases hm1 : 1 < m2
            · have hm1' : 1 < (l.drop (j + 1)).length := by rw [HM2.out]; exact hm1
              obtain ⟨g2, o2, rfl, d1⟩ := HBR.out.at' (k := 0) (by omega)
              obtain ⟨g3, o3, e', d2⟩ := HBR.out.at' (k := 1) hm1'
              obtain ⟨rfl, rfl⟩ : g2 = g3 ∧ o2 = o3 := by injection e' with e'; injection e' with e1 e2; exact ⟨e1, e2⟩
              clear e'
              rw [Nat.add_zero] at d1
              have d1 := HPB.out.1.cell d1
              have d2 := HPB.out.1.cell d2
              have HPX := Lib.hid (pre2 hm1')
              have a1 := byte_eqn ((l.drop (j + 1))[0]'(by omega)) 47 (by omega)
              have a2 := byte_eqn (l.drop (j + 1))[1] 47 (by omega)
              obtain ⟨t1, ht1⟩ : ∃ t, decide ((l.drop (j + 1))[0]'(by omega) = UInt8.ofNat 47) = t := ⟨_, rfl⟩
              obtain ⟨t2, ht2⟩ : ∃ t, decide ((l.drop (j + 1))[1] = UInt8.ofNat 47) = t := ⟨_, rfl⟩
              have HP2 : Hid ([47, 47].isPrefixOf (l.drop (j + 1)) = (t1 && t2)) := Lib.hid (by rw [HPX.out, ht1, ht2])
              rw [ht1] at a1
              rw [ht2] at a2
              clear ht1 ht2 HPX
              generalize (((l.drop (j + 1))[0]'(by omega)).toNat : Int) = x1 at d1 a1
              generalize ((l.drop (j + 1))[1].toNat : Int) = x2 at d2 a2
              have a1' : (x1 == 47) = t1 := a1
              have a2' : (x2 == 47) = t2 := a2
              clear a1 a2
              cases t1
              · go_wp2
                go_meet
                case rel => exact ⟨rfl, by rw [HP2.out]; rfl⟩
              · cases t2
                · go_wp2
                  go_meet
                  case rel => exact ⟨rfl, by rw [HP2.out]; rfl⟩
                · go_wp2
                  go_meet
                  case rel => exact ⟨rfl, by rw [HP2.out]; rfl⟩
            · have HP2 : Hid ([47, 47].isPrefixOf (l.drop (j + 1)) = false) := Lib.hid (pre2_short (by rw [HM2.out]; omega))
              have hm1' : (m2 : Int) ≤ 1 := by omega
              go_wp2
              go_meet
              case rel => exact ⟨rfl, by rw [HP2.out]⟩
          case rest =>
            obtain ⟨rfl, rfl⟩ := hcut
            obtain ⟨pf, hpf⟩ : ∃ p, [47, 47].isPrefixOf (l.drop (j + 1)) = p := ⟨_, rfl⟩
            rw [hpf]
            have HPX := Lib.hid hpf
            clear hpf
            cases pf
            case true =>
              have HX : Hid (sUri l = .open_) := Lib.hid (by rw [HSI2.out, HPX.out]; rfl)
              go_upto_if 113 with fail
              go_wp2_with (refine wpList_build0 rfl 36 rfl (some 114) rfl zrow su_built ?_; refine wpList_store_rowG rfl 36 (.tmp 2) (.tmp 114) rfl w.heap.size zrow rfl rfl 36 zrow HPB.out.2 spu_size rfl zrow_one ?_)
              intro WZ hz hkz
              have HF : Hid (sUri l = .open_) := Lib.hid (HX.out)
              have HLZ : Hid (Le w WZ) := Lib.hid (Below.trans HPB.out.1 (hkz.below (Nat.le_refl _) HPB.out.1.size))
              have HZ := Lib.hid hz
              clear hz hkz
              go_wp2
              refine bodyPost_ret (v := .tuple #[UV.nil.val, .int .i64 (-2)]) ?_ rfl ⟨UV.nil, (-2), rfl, HLZ.out, zrow_one, by rw [HF.out]⟩
              exact pu_results HZ.out rfl rfl
            have HSI3 : Hid (sUri l = SR.of (sSipUri (l.take j) (l.drop (j + 1)))) := Lib.hid (by rw [HSI2.out, HPX.out]; rfl)
            clear HSI2 HPX y0
            go_wp2_with (refine wpList_load_row rfl 36 (.tmp 6) rfl W1.heap.size rfl 36 (rowU (.slice (some ⟨b0, o0, none⟩) j j) (.slice none 0 0) (.slice none 0 0) (.slice none 0 0) 0 (.slice none 0 0) (.slice none 0 0)) (0, 0) _ HBU.out Tryz.underlying36 rfl spu_size ?_)
            refine (sipUri_c _ (.slice (some ⟨b0, o0, none⟩) j j) (l.take j) (l.drop (j + 1)) w _ HPB.out.1 HBS.out HBR.out (by rw [HM2.out]; omega)).mono ?_
            rintro e w6 ⟨x, kd, rfl, hle6, hone, hmt⟩
            have HPB6 := Lib.hid (HPB.out.to hle6)
            have HMT := Lib.hid hmt
            obtain ⟨R, hR, hRs⟩ : ∃ R, x.val = .agg R ∧ R = x.row := ⟨_, rfl, rfl⟩
            have hsz : R.size = 10 := by rw [hRs]; rfl
            have HONE := Lib.hid hone
            rw [← hRs] at hone
            have HR := Lib.hid hR
            rw [hR]
            clear hle6 hmt hR hRs
            go_wp2_with (refine wpList_store_rowG rfl 36 (.tmp 2) (.tmp 118) rfl w.heap.size R rfl rfl 36 zrow HPB6.out.2 (by rw [hsz]; exact spu_size) hsz.symm hone ?_)
            intro WZ hz hkz
            have HLZ : Hid (Le w WZ) := Lib.hid (Below.trans HPB6.out.1 (hkz.below (Nat.le_refl _) HPB6.out.1.size))
            have HKZ := Lib.hid hkz
            have HZ := Lib.hid hz
            clear hz hkz
            go_wp2
            refine bodyPost_ret (v := .tuple #[.agg R, .int .i64 kd]) (pu_results HZ.out rfl rfl hsz) rfl ⟨x, kd, by rw [← HR.out], HLZ.out, HONE.out, ?_⟩
            rw [HSI3.out]
            have hm := HMT.out
            cases hS : sSipUri (l.take j) (l.drop (j + 1)) with
            | none => rw [hS] at hm; exact hm
            | some u =>
              rw [hS] at hm
              obtain ⟨h1, h2⟩ := hm
              have hlt := lt_of_heap HPB.out.2
              exact ⟨h1, bqT (h2.scheme.le HLZ.out), bqT (h2.raw.le HLZ.out), h2.wild, h2.slash, bqT (h2.user.le HLZ.out), bqT (h2.pass.le HLZ.out), bqT (h2.host.le HLZ.out), h2.port, (h2.ps.kp HKZ.out (by omega)).kq HLZ.out h2.pl, (h2.hs.kp HKZ.out (by omega)).kq HLZ.out h2.hl⟩
        case false =>
          have HAND : Hid ((l.take j).map lowC ≠ sSip ∧ (l.take j).map lowC ≠ sSips) := Lib.hid ⟨of_decide_eq_false HR1.out, of_decide_eq_false HR2.out⟩
          clear HR1 HR2
          have y0 : WC.cell? ⟨W1.heap.size, 0, none⟩ = some (.slice (some ⟨b0, o0, none⟩) j j) := cell_cells HBU.out 0
          have y1 : WC.cell? ⟨W1.heap.size, 1, none⟩ = some (.slice none 0 0) := cell_cells HBU.out 1
          have z1 : WC.frozen? ⟨W1.heap.size, 1, none⟩ = false := frozen_cells HBU.out 1
          obtain ⟨r3, hr3⟩ : ∃ r, decide ((l.take j).map lowC = l.take j) = r := ⟨_, rfl⟩
          have HR3 := Lib.hid hr3
          have is3 := isSame_x _ _ _ _ WC r3 hr3 HLV.out (HBS.out.le HPB.out.1)
          have IS3 := Lib.hid is3
          obtain ⟨r4, hr4⟩ : ∃ r, prB (l.drop (j + 1)) = r := ⟨_, rfl⟩
          have HR4 := Lib.hid hr4
          have IS4 := Lib.hid (bool_call (isPrinted_c _ _ WC (HBR.out.le HPB.out.1)) hr4)
          have HE := Lib.hid (emp_iff HM2.out)
          have HSI2 : Hid (sUri l = if !(l.drop (j + 1)).isEmpty && r4 && !((l.drop (j + 1)).head? == some 47) && r3 then .val { PU.zero with scheme := l.take j, raw := l.drop (j + 1) } else .open_) := Lib.hid (by rw [HSI.out, if_pos HAND.out, hr4, hr3])
          clear hr3 is3 hr4 HSI HR3 HR4 HAND
          by_cases hm0 : m2 = 0
          · have HX : Hid (sUri l = .open_) := Lib.hid (by
              have : (l.drop (j + 1)).isEmpty = true := by rw [HE.out, hm0]; rfl
              rw [HSI2.out, this]; rfl)
            have hm0' : ((m2 : Int) == 0) = true := by simp [hm0]
            go_upto_if 88 with fail
            go_wp2_with (refine wpList_build0 rfl 36 rfl (some 89) rfl zrow su_built ?_; refine wpList_store_rowG rfl 36 (.tmp 2) (.tmp 89) rfl w.heap.size zrow rfl rfl 36 zrow HPB.out.2 spu_size rfl zrow_one ?_)
            intro WZ hz hkz
            have HF : Hid (sUri l = .open_) := Lib.hid (HX.out)
            have HLZ : Hid (Le w WZ) := Lib.hid (Below.trans HPB.out.1 (hkz.below (Nat.le_refl _) HPB.out.1.size))
            have HZ := Lib.hid hz
            clear hz hkz
            go_wp2
            refine bodyPost_ret (v := .tuple #[UV.nil.val, .int .i64 (-2)]) ?_ rfl ⟨UV.nil, (-2), rfl, HLZ.out, zrow_one, by rw [HF.out]⟩
            exact pu_results HZ.out rfl rfl
          have hm0' : ((m2 : Int) == 0) = false := by simp; omega
          have HNE : Hid ((l.drop (j + 1)).isEmpty = false) := Lib.hid (by rw [HE.out, hm0'])
          have hmp : 0 < (l.drop (j + 1)).length := by rw [HM2.out]; omega
          cases r4
          · have HX : Hid (sUri l = .open_) := Lib.hid (by rw [HSI2.out, HNE.out]; rfl)
            go_wp2_with fail
            refine IS4.out.mono ?_
            rintro e w' ⟨rfl, rfl⟩
            go_upto_if 88 with fail
            go_wp2_with (refine wpList_build0 rfl 36 rfl (some 89) rfl zrow su_built ?_; refine wpList_store_rowG rfl 36 (.tmp 2) (.tmp 89) rfl w.heap.size zrow rfl rfl 36 zrow HPB.out.2 spu_size rfl zrow_one ?_)
            intro WZ hz hkz
            have HF : Hid (sUri l = .open_) := Lib.hid (HX.out)
            have HLZ : Hid (Le w WZ) := Lib.hid (Below.trans HPB.out.1 (hkz.below (Nat.le_refl _) HPB.out.1.size))
            have HZ := Lib.hid hz
            clear hz hkz
            go_wp2
            refine bodyPost_ret (v := .tuple #[UV.nil.val, .int .i64 (-2)]) ?_ rfl ⟨UV.nil, (-2), rfl, HLZ.out, zrow_one, by rw [HF.out]⟩
            exact pu_results HZ.out rfl rfl
          go_wp2_with fail
          refine IS4.out.mono ?_
          rintro e w' ⟨rfl, rfl⟩
          obtain ⟨g2, o2, rfl, d1⟩ := HBR.out.at' hmp
          rw [Nat.add_zero] at d1
          have d1 := HPB.out.1.cell d1
          have HHD := Lib.hid (head_beq hmp 47)
          have a1 := byte_eqn (l.drop (j + 1))[0] 47 (by omega)
          obtain ⟨t1, ht1⟩ : ∃ t, decide ((l.drop (j + 1))[0] = UInt8.ofNat 47) = t := ⟨_, rfl⟩
          have HT1 : Hid (((l.drop (j + 1)).head? == some 47) = t1) := Lib.hid (by rw [HHD.out]; exact ht1)
          rw [ht1] at a1
          clear ht1 HHD
          generalize ((l.drop (j + 1))[0].toNat : Int) = x1 at d1 a1
          have a1' : (x1 == 47) = t1 := a1
          clear a1
          cases t1
          case true =>
            have HX : Hid (sUri l = .open_) := Lib.hid (by rw [HSI2.out, HNE.out, HT1.out]; rfl)
            go_upto_if 88 with fail
            go_wp2_with (refine wpList_build0 rfl 36 rfl (some 89) rfl zrow su_built ?_; refine wpList_store_rowG rfl 36 (.tmp 2) (.tmp 89) rfl w.heap.size zrow rfl rfl 36 zrow HPB.out.2 spu_size rfl zrow_one ?_)
            intro WZ hz hkz
            have HF : Hid (sUri l = .open_) := Lib.hid (HX.out)
            have HLZ : Hid (Le w WZ) := Lib.hid (Below.trans HPB.out.1 (hkz.below (Nat.le_refl _) HPB.out.1.size))
            have HZ := Lib.hid hz
            clear hz hkz
            go_wp2
            refine bodyPost_ret (v := .tuple #[UV.nil.val, .int .i64 (-2)]) ?_ rfl ⟨UV.nil, (-2), rfl, HLZ.out, zrow_one, by rw [HF.out]⟩
            exact pu_results HZ.out rfl rfl
          case false =>
            go_wp2_with fail
            refine IS3.out.mono ?_
            rintro e w' ⟨rfl, rfl⟩
            cases r3
            · have HX : Hid (sUri l = .open_) := Lib.hid (by rw [HSI2.out, HNE.out, HT1.out]; rfl)
              go_upto_if 88 with fail
              go_wp2_with (refine wpList_build0 rfl 36 rfl (some 89) rfl zrow su_built ?_; refine wpList_store_rowG rfl 36 (.tmp 2) (.tmp 89) rfl w.heap.size zrow rfl rfl 36 zrow HPB.out.2 spu_size rfl zrow_one ?_)
              intro WZ hz hkz
              have HF : Hid (sUri l = .open_) := Lib.hid (HX.out)
              have HLZ : Hid (Le w WZ) := Lib.hid (Below.trans HPB.out.1 (hkz.below (Nat.le_refl _) HPB.out.1.size))
              have HZ := Lib.hid hz
              clear hz hkz
              go_wp2
              refine bodyPost_ret (v := .tuple #[UV.nil.val, .int .i64 (-2)]) ?_ rfl ⟨UV.nil, (-2), rfl, HLZ.out, zrow_one, by rw [HF.out]⟩
              exact pu_results HZ.out rfl rfl
            · have HX : Hid (sUri l = .val { PU.zero with scheme := l.take j, raw := l.drop (j + 1) }) := Lib.hid (by rw [HSI2.out, HNE.out, HT1.out]; rfl)
              go_upto_if 88 with fail
              have HBU5 : Hid ((WC.setCell ⟨W1.heap.size, 1, none⟩ (.slice (some ⟨g2, o2, none⟩) m2 c2)).heap[W1.heap.size]? = some (.cells #[(.slice (some ⟨b0, o0, none⟩) j j), .slice (some ⟨g2, o2, none⟩) m2 c2, .bool false, .bool false, (.slice none 0 0), (.slice none 0 0), (.slice none 0 0), .int .i64 0, (.slice none 0 0), (.slice none 0 0)] 36 (0, 0))) := Lib.hid (heap_set HBU.out 1 _)
              have HPB5 : Hid (PB w (WC.setCell ⟨W1.heap.size, 1, none⟩ (.slice (some ⟨g2, o2, none⟩) m2 c2))) := Lib.hid ⟨Below.trans HPB.out.1 ((kp_set WC W1.heap.size 1 _).below (Nat.le_of_lt HLT.out) HPB.out.1.size), (kp_set WC W1.heap.size 1 _).heap (by have := HLT.out; omega) HPB.out.2⟩
              go_wp2_with (refine wpList_load_row rfl 36 (.tmp 6) rfl W1.heap.size rfl 36 #[(.slice (some ⟨b0, o0, none⟩) j j), .slice (some ⟨g2, o2, none⟩) m2 c2, .bool false, .bool false, (.slice none 0 0), (.slice none 0 0), (.slice none 0 0), .int .i64 0, (.slice none 0 0), (.slice none 0 0)] (0, 0) _ HBU5.out Tryz.underlying36 rfl spu_size ?_; refine wpList_store_rowG rfl 36 (.tmp 2) (.tmp 92) rfl w.heap.size #[(.slice (some ⟨b0, o0, none⟩) j j), .slice (some ⟨g2, o2, none⟩) m2 c2, .bool false, .bool false, (.slice none 0 0), (.slice none 0 0), (.slice none 0 0), .int .i64 0, (.slice none 0 0), (.slice none 0 0)] rfl rfl 36 zrow HPB5.out.2 spu_size rfl (raw_one _ _ _ _ _ _) ?_)
              intro WZ hz hkz
              have HLZ : Hid (Le w WZ) := Lib.hid (Below.trans HPB5.out.1 (hkz.below (Nat.le_refl _) HPB5.out.1.size))
              have HZ := Lib.hid hz
              clear hz hkz
              go_wp2
              refine bodyPost_ret (v := .tuple #[.agg #[(.slice (some ⟨b0, o0, none⟩) j j), .slice (some ⟨g2, o2, none⟩) m2 c2, .bool false, .bool false, (.slice none 0 0), (.slice none 0 0), (.slice none 0 0), .int .i64 0, (.slice none 0 0), (.slice none 0 0)], .int .i64 0]) (pu_results HZ.out rfl rfl) rfl ⟨⟨(.slice (some ⟨b0, o0, none⟩) j j), .slice (some ⟨g2, o2, none⟩) m2 c2, false, false, (.slice none 0 0), (.slice none 0 0), (.slice none 0 0), 0, (.slice none 0 0), (.slice none 0 0)⟩, 0, rfl, HLZ.out, raw_one _ _ _ _ _ _, ?_⟩
              rw [HX.out]
              exact ⟨rfl, bqT (HBS.out.le HLZ.out), bqT (HBR.out.le HLZ.out), rfl, rfl, Bq.nil _ _, Bq.nil _ _, Bq.nil _ _, rfl, Kq.nil _ _, Kq.nil _ _⟩

end Go.Proofs.YteedhaenbamiaaaGreatDoor
