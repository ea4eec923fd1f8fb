/- Contracts: the sizes of acts; keys in small letters. -/
import Derived.Test.YtgelnjcjpkklbaaGreatDoorIDo
import Derived.Test.YtgelnjcjpkklbaaGreatDoorLw
set_option linter.unusedVariables false
set_option linter.unusedSimpArgs false
namespace Go.Proofs.YtgelnjcjpkklbaaGreatDoor
open Go.RowKit

def ftD (d : Act3) : Bool := ftB d.2.1.length && ftB d.2.2.length
def ftDs (ds : List Act3) : Bool := ftB ds.length && ds.all ftD
set_option maxHeartbeats 1000000 in
theorem zzFits10_c (w : World) (op : Int) (x y : Value) (a b : Tx) (r : Bool) (hr : ftD (op, a, b) = r) (hx : Bv w x a) (hy : Bv w y b) :
    Calls Tryz.prog 75 #[.agg #[.int .i64 op, x, y]] w fun e w' => e = .returned (.bool r) ∧ Le w w' := by
  obtain ⟨A, c, rfl⟩ := hx.form
  obtain ⟨A', c', rfl⟩ := hy.form
  have hr' : (ftB a.length && ftB b.length) = r := hr
  clear hx hy hr
  obtain ⟨r1, h1⟩ : ∃ r, ftB a.length = r := ⟨_, rfl⟩
  obtain ⟨r2, h2⟩ : ∃ r, ftB b.length = r := ⟨_, rfl⟩
  rw [h1, h2] at hr'
  subst hr'
  cases r1
  · have g1 := ftB_f h1
    clear h1 h2
    go_enter Tryz.func75, Tryz.ntmps75
    go_wp2
    go_ret
    exact ⟨rfl, (Le.refl w).alloc _⟩
  · have g1 := ftB_t h1
    cases r2
    · have g2 := ftB_f h2
      clear h1 h2
      go_enter Tryz.func75, Tryz.ntmps75
      go_wp2
      go_ret
      exact ⟨rfl, (Le.refl w).alloc _⟩
    · have g2 := ftB_t h2
      clear h1 h2
      go_enter Tryz.func75, Tryz.ntmps75
      go_wp2
      go_ret
      exact ⟨rfl, (Le.refl w).alloc _⟩
set_option maxRecDepth 4000 in
set_option maxHeartbeats 2000000 in
theorem zzFits9_c (w : World) (v : Value) (l : List Act3) (r : Bool) (hr : ftDs l = r) (hv : Dw w v l) :
    Calls Tryz.prog 35 #[v] w fun e w' => e = .returned (.bool r) ∧ Le w w' := by
  have HV := Lib.hid hv
  obtain ⟨A, c, rfl⟩ := hv.form
  have hl : l.length ≤ 140737488355328 := by obtain ⟨_, _, _, _, _, h, _⟩ := hv; exact h
  have HR := Lib.hid hr
  clear hv hr
  obtain ⟨r1, h1⟩ : ∃ r, ftB l.length = r := ⟨_, rfl⟩
  cases r1
  · have g1 := ftB_f h1
    have HX : Hid (r = false) := Lib.hid (by rw [← HR.out]; unfold ftDs; rw [h1]; rfl)
    clear h1
    go_enter Tryz.func35, Tryz.ntmps35
    go_wp2
    go_ret
    exact ⟨by rw [HX.out]; rfl, Le.refl w⟩
  have g1 := ftB_t h1
  have H1 := Lib.hid h1
  clear h1
  go_enter Tryz.func35, Tryz.ntmps35
  go_wp2
  go_loopg [10] (l.length) (fun n i wr => ∃ k : Nat, n + k = l.length ∧ i = .int .i64 k ∧ Le w wr ∧ (l.take k).all ftD = true)
  case atStart => exact ⟨0, by omega, rfl, Le.refl w, rfl⟩
  case round =>
    obtain ⟨k, hn, rfl, hle, hq⟩ := hrel
    have HQ := Lib.hid hq
    have HL := Lib.hid hle
    have HN : gk + k ≤ l.length ∧ l.length ≤ gk + k := by omega
    have hsz := hle.size
    clear hn hq
    by_cases hlt : k < l.length
    · obtain ⟨g, o, rfl, x, y, d0', d1', d2', X, Y⟩ := HV.out.at_ hlt
      have d0 := hle.cell d0'
      have d1 := hle.cell d1'
      have d2 := hle.cell d2'
      generalize hop : l[k].1 = op at d0 d0'
      have HOP := Lib.hid hop
      clear hop
      have X2 := Lib.hid ((X.out.le hle).le ((Le.refl wr).alloc (Obj.cells #[.int .i64 op, x, y] 58)))
      have Y2 := Lib.hid ((Y.out.le hle).le ((Le.refl wr).alloc (Obj.cells #[.int .i64 op, x, y] 58)))
      obtain ⟨A1, c1, rfl⟩ := X.out.form
      obtain ⟨A2, c2, rfl⟩ := Y.out.form
      obtain ⟨r2, h2⟩ : ∃ r, ftD (op, l[k].2.1, l[k].2.2) = r := ⟨_, rfl⟩
      have H2 := Lib.hid h2
      have H3 : Hid (ftD l[k] = r2) := Lib.hid h2
      clear hle d0' d1' d2' X Y h2
      go_wp2_with fail
      refine (zzFits10_c _ _ _ _ l[k].2.1 l[k].2.2 r2 H2.out X2.out Y2.out).mono ?_
      rintro e w' ⟨rfl, hle'⟩
      have HLE' : Hid (Le w w') := Lib.hid (Le.trans (HL.out.alloc _) hle')
      clear hle'
      cases r2
      · have HX : Hid (r = false) := Lib.hid (by
          rw [← HR.out]; unfold ftDs
          rw [List.all_eq_false.2 ⟨l[k], List.getElem_mem hlt, by rw [H3.out]; simp⟩, Bool.and_false])
        go_wp2
        go_ret
        exact ⟨by rw [HX.out]; rfl, HLE'.out⟩
      · have HX : Hid ((l.take (k + 1)).all ftD = true) := Lib.hid (by rw [List.take_succ_eq_append_getElem hlt, List.all_append, HQ.out]; simpa using H3.out)
        go_wp2
        go_roundg (gk - 1)
        case measure => omega
        case rel => exact ⟨k + 1, by omega, by go_num, HLE'.out, HX.out⟩
    · have HX : Hid (r = true) := Lib.hid (by
        have := HQ.out; rw [List.take_of_length_le (by omega)] at this
        rw [← HR.out]; unfold ftDs; rw [H1.out, this]; rfl)
      clear hle
      go_wp2
      go_ret
      exact ⟨by rw [HX.out]; rfl, HL.out⟩
theorem ftDs_parts {l : List Act3} (h : ftDs l = true) : l.length ≤ 2147483647 ∧ ∀ z ∈ l, z.2.1.length ≤ 2147483647 ∧ z.2.2.length ≤ 2147483647 := by
  unfold ftDs at h
  simp only [Bool.and_eq_true] at h
  refine ⟨ftB_le h.1, fun z hz => ?_⟩
  have := List.all_eq_true.1 h.2 z hz
  unfold ftD at this
  simp only [Bool.and_eq_true] at this
  exact ⟨ftB_le this.1, ftB_le this.2⟩

/-! ### isLow -/
def capq (c : UInt8) : Bool := decide (65 ≤ (c.toNat : Int)) && decide ((c.toNat : Int) ≤ 90)
def lowB (l : Tx) : Bool := l.all (fun c => !capq c) && wordB l
theorem lowB_word {l : Tx} (h : lowB l = true) : l ≠ [] ∧ l.length ≤ 8192 := by
  unfold lowB wordB at h
  simp only [Bool.and_eq_true, decide_eq_true_eq] at h
  exact ⟨List.length_pos_iff.1 h.2.1.2, h.2.2⟩
set_option maxRecDepth 4000 in
set_option maxHeartbeats 1000000 in
theorem isLow_c (v : Value) (l : Tx) (w : World) (r : Bool) (hr : lowB l = r) (hv : Bv w v l) : Calls Tryz.prog 40 #[v] w fun e w' => e = .returned (.bool r) ∧ w = w' := by
  have HR := Lib.hid hr
  have HV := Lib.hid hv
  obtain ⟨A, c, rfl, h1, h2, h4⟩ := hv
  have H4 := Lib.hid h4
  clear h4 hr
  go_enter Tryz.func40, Tryz.ntmps40
  go_wp2
  go_loop [3] (fun i => ∃ k : Nat, k ≤ l.length ∧ i = .int .i64 k ∧ Hid ((l.take k).all (fun c => !capq c) = true)) (fun i => l.length - (intOf i).toNat)
  case atStart => exact ⟨0, Nat.zero_le _, rfl, Lib.hid rfl⟩
  case round =>
    obtain ⟨k, hkl, rfl, HQ⟩ := hrel
    by_cases hlt : k < l.length
    · obtain ⟨g, o, rfl, hc⟩ := H4.out.2 (by omega)
      have d1 := hc k hlt
      clear hc
      by_cases n1 : 65 ≤ (l[k].toNat : Int)
      · by_cases n2 : (l[k].toNat : Int) ≤ 90
        · have HX : Hid (r = false) := Lib.hid (by
            rw [← HR.out]; unfold lowB
            rw [List.all_eq_false.2 ⟨l[k], List.getElem_mem hlt, by unfold capq; rw [decide_eq_true n1, decide_eq_true n2]; simp⟩, Bool.false_and])
          generalize (l[k].toNat : Int) = x at d1 n1 n2
          go_wp2
          go_ret
          exact ⟨by rw [HX.out]; rfl, rfl⟩
        · have HX : Hid ((l.take (k + 1)).all (fun c => !capq c) = true) := Lib.hid (by
            rw [List.take_succ_eq_append_getElem hlt, List.all_append, HQ.out]
            unfold capq
            simp only [List.all_cons, List.all_nil, decide_eq_false n2, Bool.and_false, Bool.not_false, Bool.and_true])
          have n3 : 90 < (l[k].toNat : Int) := by omega
          clear n2
          generalize (l[k].toNat : Int) = x at d1 n1 n3
          go_wp2
          go_round
          case rel => exact ⟨k + 1, by omega, by go_num, HX⟩
          case measure => simp [intOf]; omega
      · have HX : Hid ((l.take (k + 1)).all (fun c => !capq c) = true) := Lib.hid (by
          rw [List.take_succ_eq_append_getElem hlt, List.all_append, HQ.out]
          unfold capq
          simp only [List.all_cons, List.all_nil, decide_eq_false n1, Bool.false_and, Bool.not_false, Bool.and_true])
        have n3 : (l[k].toNat : Int) < 65 := by omega
        clear n1
        generalize (l[k].toNat : Int) = x at d1 n3
        go_wp2
        go_round
        case rel => exact ⟨k + 1, by omega, by go_num, HX⟩
        case measure => simp [intOf]; omega
    · have HX : Hid (wordB l = r) := Lib.hid (by
        have h := HQ.out
        rw [List.take_of_length_le (by omega)] at h
        rw [← HR.out]; unfold lowB; rw [h, Bool.true_and])
      go_wp2_with fail
      refine (isWord_d _ l w r HX.out HV.out).mono ?_
      rintro e w' ⟨rfl, rfl⟩
      go_wp2
      go_ret
      exact ⟨rfl, rfl⟩
end Go.Proofs.YtgelnjcjpkklbaaGreatDoor
