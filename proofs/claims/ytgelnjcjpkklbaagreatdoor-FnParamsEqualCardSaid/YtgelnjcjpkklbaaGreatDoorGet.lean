/- Contracts: parameters: Get, GetOr, Has, Length; the thin package's text for true. -/
import Derived.Test.YtgelnjcjpkklbaaGreatDoorPar
import Derived.Test.YtgelnjcjpkklbaaGreatDoorSpWb
import Derived.Test.YtgelnjcjpkklbaaGreatDoorUText
import Derived.Test.YtgelnjcjpkklbaaGreatDoorKnown
import Derived.Lib.SlBytesConst
set_option linter.unusedVariables false
set_option linter.unusedSimpArgs false
namespace Go.Proofs.YtgelnjcjpkklbaaGreatDoor
open Go.RowKit

/-- the value of the first pair of a key -/
def fnd (l : KVs) (k : Tx) : Option Tx := (l.find? (fun x => decide (x.1 = k))).map (·.2)
theorem fnd_at {l : KVs} {k : Tx} {i : Nat} (hi : i < l.length) (h : l[i].1 = k) (hn : (l.take i).all (fun x => !decide (x.1 = k)) = true) : fnd l k = some l[i].2 := by
  have e : l = l.take i ++ l[i] :: l.drop (i + 1) := by
    conv => lhs; rw [← List.take_append_drop i l, List.drop_eq_getElem_cons hi]
  have h0 : (l.take i).find? (fun x => decide (x.1 = k)) = none := by
    rw [List.find?_eq_none]
    intro x hx
    have := List.all_eq_true.1 hn x hx
    simpa using this
  have h1 : l.find? (fun x => decide (x.1 = k)) = some l[i] := by
    conv => lhs; rw [e]
    rw [List.find?_append, h0, Option.none_or, List.find?_cons_of_pos (by simpa using h)]
  unfold fnd
  rw [h1]
  rfl
theorem fnd_none {l : KVs} {k : Tx} (hn : l.all (fun x => !decide (x.1 = k)) = true) : fnd l k = none := by
  unfold fnd
  rw [List.find?_eq_none.2]
  · rfl
  · intro x hx
    have := List.all_eq_true.1 hn x hx
    simpa using this
theorem kInt_fnd (l : KVs) (k : Tx) : (0 ≤ kInt l k) = ((fnd l k).isSome = true) := by
  by_cases h : kIdx l k < l.length
  · have h1 : (l.find? (fun x => decide (x.1 = k))).isSome = true := by
      rw [List.find?_isSome]
      exact ⟨l[kIdx l k], List.getElem_mem h, List.findIdx_getElem (xs := l) (p := fun (x : Tx × Tx) => decide (x.1 = k)) (w := h)⟩
    unfold kInt fnd
    rw [if_pos h, Option.isSome_map, h1]
    simp
  · have h1 : (l.find? (fun x => decide (x.1 = k))).isSome = false := by
      rw [Option.isSome_eq_false_iff, Option.isNone_iff_eq_none, List.find?_eq_none]
      intro x hx hp
      exact h (List.findIdx_lt_length_of_exists ⟨x, hx, hp⟩)
    unfold kInt fnd
    rw [if_neg h, Option.isSome_map, h1]
    simp
set_option maxHeartbeats 1000000 in
theorem get_c (w : World) (v : Value) (l : KVs) (key : Tx) (hv : Hp w v l) :
    Calls Tryz.prog 78 #[v, .string (st key)] w fun e w' => e = .returned (.tuple #[.string (st ((fnd l key).getD [])), .bool (fnd l key).isSome]) ∧ Le w w' := by
  obtain ⟨A, c, rfl, hc1, hc2, hl, _, hr⟩ := hv
  go_enter Tryz.func78, Tryz.ntmps78
  go_wp2
  go_loopg [10] (l.length) (fun n i wr => ∃ k : Nat, n + k = l.length ∧ i = .int .i64 k ∧ Le w wr ∧ (l.take k).all (fun x => !decide (x.1 = key)) = true)
  case atStart => exact ⟨0, by omega, rfl, Le.refl w, rfl⟩
  case round =>
    obtain ⟨k, hn, rfl, hle, hq⟩ := hrel
    have HQ := Lib.hid hq
    have HLE := Lib.hid hle
    have HN : gk + k ≤ l.length ∧ l.length ≤ gk + k := by omega
    clear hn hq
    by_cases hlt : k < l.length
    · obtain ⟨g, o, rfl, hg, hcells⟩ := hr (by omega)
      have d1 := hle.cell (hcells k hlt).1
      have d2 := hle.cell (hcells k hlt).2
      clear hle hcells hg hr
      by_cases hk : l[k].1 = key
      · have hb : ((st l[k].1).toList == (st key).toList) = true := by rw [st_beq2]; simpa using hk
        have hres := Lib.hid (fnd_at hlt hk HQ.out)
        clear hk
        go_wp2
        go_ret2
        exact ⟨by rw [hres.out]; rfl, HLE.out.alloc _⟩
      · have hb : ((st l[k].1).toList == (st key).toList) = false := by rw [st_beq2]; simpa using hk
        have hF := Lib.hid (show (l.take (k + 1)).all (fun x => !decide (x.1 = key)) = true from by
          rw [List.take_succ_eq_append_getElem hlt]; simp only [List.all_append, HQ.out, List.all_cons, List.all_nil]; simpa using hk)
        clear hk
        go_wp2
        go_roundg (gk - 1)
        case measure => omega
        case rel => exact ⟨k + 1, by omega, by go_num, HLE.out.alloc _, hF.out⟩
    · have hres := Lib.hid (fnd_none (k := key) (l := l) (by have h1 := HQ.out; rw [List.take_of_length_le (by omega)] at h1; exact h1))
      clear hr hle
      go_wp2
      go_ret2
      exact ⟨by rw [hres.out]; rfl, HLE.out⟩
set_option maxHeartbeats 1000000 in
theorem getOr_c (w : World) (v : Value) (l : KVs) (key df : Tx) (hv : Hp w v l) :
    Calls Tryz.prog 80 #[v, .string (st key), .string (st df)] w fun e w' => e = .returned (.string (st ((fnd l key).getD df))) ∧ Le w w' := by
  obtain ⟨A, c, rfl, hc1, hc2, hl, _, hr⟩ := hv
  go_enter Tryz.func80, Tryz.ntmps80
  go_wp2
  go_loopg [11] (l.length) (fun n i wr => ∃ k : Nat, n + k = l.length ∧ i = .int .i64 k ∧ Le w wr ∧ (l.take k).all (fun x => !decide (x.1 = key)) = true)
  case atStart => exact ⟨0, by omega, rfl, Le.refl w, rfl⟩
  case round =>
    obtain ⟨k, hn, rfl, hle, hq⟩ := hrel
    have HQ := Lib.hid hq
    have HLE := Lib.hid hle
    have HN : gk + k ≤ l.length ∧ l.length ≤ gk + k := by omega
    clear hn hq
    by_cases hlt : k < l.length
    · obtain ⟨g, o, rfl, hg, hcells⟩ := hr (by omega)
      have d1 := hle.cell (hcells k hlt).1
      have d2 := hle.cell (hcells k hlt).2
      clear hle hcells hg hr
      by_cases hk : l[k].1 = key
      · have hb : ((st l[k].1).toList == (st key).toList) = true := by rw [st_beq2]; simpa using hk
        have hres := Lib.hid (fnd_at hlt hk HQ.out)
        clear hk
        go_wp2
        go_ret
        exact ⟨by rw [hres.out]; rfl, HLE.out.alloc _⟩
      · have hb : ((st l[k].1).toList == (st key).toList) = false := by rw [st_beq2]; simpa using hk
        have hF := Lib.hid (show (l.take (k + 1)).all (fun x => !decide (x.1 = key)) = true from by
          rw [List.take_succ_eq_append_getElem hlt]; simp only [List.all_append, HQ.out, List.all_cons, List.all_nil]; simpa using hk)
        clear hk
        go_wp2
        go_roundg (gk - 1)
        case measure => omega
        case rel => exact ⟨k + 1, by omega, by go_num, HLE.out.alloc _, hF.out⟩
    · have hres := Lib.hid (fnd_none (k := key) (l := l) (by have h1 := HQ.out; rw [List.take_of_length_le (by omega)] at h1; exact h1))
      clear hr hle
      go_wp2
      go_ret
      exact ⟨by rw [hres.out]; rfl, HLE.out⟩
theorem has_c (w : World) (v : Value) (l : KVs) (key : Tx) (hv : Hp w v l) :
    Calls Tryz.prog 81 #[v, .string (st key)] w fun e w' => e = .returned (.bool (fnd l key).isSome) ∧ Le w w' := by
  have HV := Lib.hid hv
  have hb : decide (0 ≤ kInt l key) = (fnd l key).isSome := by
    have := kInt_fnd l key
    by_cases h : 0 ≤ kInt l key
    · rw [decide_eq_true h]; rw [this] at h; exact h.symm
    · rw [decide_eq_false h]; rw [this] at h; simpa using h
  generalize hr : (fnd l key).isSome = r at hb
  have HR := Lib.hid hr
  clear hv hr
  go_enter Tryz.func81, Tryz.ntmps81
  go_wp2_with fail
  refine (index_c _ _ _ _ HV.out).mono ?_
  rintro e w1 ⟨rfl, hle1⟩
  have HLE1 := Lib.hid hle1
  clear hle1
  generalize kInt l key = z at hb
  go_wp2
  go_ret
  exact ⟨rfl, HLE1.out⟩
def isT (b : Bool) : Tx := if b then [49] else []
set_option maxRecDepth 8000 in
theorem iIs_c (w : World) (b : Bool) :
    Calls Tryz.prog 79 #[.bool b] w fun e w' => ∃ v, e = .returned v ∧ Bq (w.heap.size ≤ ·) w' v (isT b) ∧ Le w w' := by
  have kc := fun (w : World) (C : Array Value) (n c : Nat) => Lib.run_convert_bytes_const (P := Tryz.prog) w 22 5 C n c Tryz.underlying22 Tryz.underlying5
  cases b
  case false =>
    go_enter Tryz.func79, Tryz.ntmps79
    go_wp2
    go_ret
    exact ⟨_, rfl, Bq.nil _ _, Le.refl w⟩
  case true =>
    go_enter Tryz.func79, Tryz.ntmps79
    go_wp2
    go_ret
    refine ⟨_, rfl, ⟨bv_lit w [49] (by decide) (1, 2), ?_⟩, (Le.refl w).alloc _⟩
    intro g hg
    have hg' : some w.heap.size = some g := hg
    injection hg' with hg'
    exact Nat.le_of_eq hg'
end Go.Proofs.YtgelnjcjpkklbaaGreatDoor
