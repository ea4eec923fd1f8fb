/- Contract: how much there is in a list of pairs. -/
import Derived.Test.YteedhaenbamiaaaGreatDoorLw
import Derived.IntWalk
set_option linter.unusedVariables false
set_option linter.unusedSimpArgs false
namespace Go.Proofs.YteedhaenbamiaaaGreatDoor
open Go.RowKit

/-- how much there is in the first k -/
def hvN (l : KVs) (k : Nat) : Nat := l.length + ((l.take k).map (fun x => x.1.length + x.2.length)).sum
theorem hvN_succ {l : KVs} {k : Nat} (h : k < l.length) : hvN l (k + 1) = hvN l k + (l[k].1.length + l[k].2.length) := by
  unfold hvN
  rw [List.take_succ_eq_append_getElem h, List.map_append, List.sum_append]
  simp only [List.map_cons, List.map_nil, List.sum_cons, List.sum_nil]
  omega
theorem sum_mem {l : List Nat} {x : Nat} (h : x ∈ l) : x ≤ l.sum := by
  induction l with
  | nil => cases h
  | cons y r ih =>
    rw [List.sum_cons]
    rcases List.mem_cons.1 h with rfl | h
    · omega
    · have := ih h; omega
theorem hvN_mem {l : KVs} {x : Tx × Tx} (h : x ∈ l) : l.length + (x.1.length + x.2.length) ≤ hvN l l.length := by
  unfold hvN
  rw [List.take_length]
  have := sum_mem (List.mem_map_of_mem (f := fun x : Tx × Tx => x.1.length + x.2.length) h)
  omega
theorem hvN_len (l : KVs) (k : Nat) : l.length ≤ hvN l k := by unfold hvN; omega
def HvyPost (l : KVs) (w : World) (e : Ending) (w' : World) : Prop := ∃ n : Nat, e = .returned (.int .i64 n) ∧ (n ≤ 8192 → hvN l l.length ≤ n) ∧ n ≤ 1125899906842624 ∧ Le w w'
set_option maxRecDepth 8000 in
set_option maxHeartbeats 2000000 in
theorem heavy_c (φ : Nat → Prop) (v : Value) (l : KVs) (w : World) (hv : Kq φ w v l) : Calls Tryz.prog 47 #[v] w (HvyPost l w) := by
  have HV := Lib.hid hv
  obtain ⟨A, c, rfl, h1, h2, h3, h5⟩ := hv
  have H5 := Lib.hid h5
  clear h5
  go_enter Tryz.func47, Tryz.ntmps47
  go_wp2
  go_loopg [3, 4] (l.length) (fun n s i wr => ∃ k : Nat, n + k = l.length ∧ i = .int .i64 k ∧ s = .int .i64 (hvN l k) ∧ hvN l k ≤ 1125899906842624 ∧ Dr w wr)
  case atStart => exact ⟨0, by omega, rfl, by simp [hvN], by simp [hvN]; omega, Dr.refl w⟩
  case round =>
    obtain ⟨k, hn, rfl, rfl, hb, hdr⟩ := hrel
    have HD := Lib.hid hdr
    have HN : gk + k ≤ l.length ∧ l.length ≤ gk + k := by omega
    clear hn hdr
    by_cases hlt : k < l.length
    · obtain ⟨g, o, rfl, _, hc⟩ := H5.out (by omega)
      obtain ⟨x, y, d1, d2, hx, hy⟩ := hc k hlt
      obtain ⟨Ax, cx, rfl, lx⟩ := bv_slice hx.1
      obtain ⟨Ay, cy, rfl, ly⟩ := bv_slice hy.1
      have lx' := hx.1
      have ly' := hy.1
      have bx : l[k].1.length ≤ 140737488355328 := by obtain ⟨_, _, _, _, _, h⟩ := lx'; exact h.1
      have bY : l[k].2.length ≤ 140737488355328 := by obtain ⟨_, _, _, _, _, h⟩ := ly'; exact h.1
      have e1 := HD.out.le.cell d1
      have e2 := HD.out.le.cell d2
      have hs := hvN_succ hlt
      have HS := Lib.hid hs
      clear hc d1 d2 hx hy lx ly lx' ly' hs
      by_cases hm : hvN l k ≤ 65536
      · have hle : decide ((hvN l k : Int) ≤ 65536) = true := decide_eq_true (by omega)
        have HM := Lib.hid hm
        have H2 : Hid (hvN l (k + 1) ≤ 1125899906842624) := Lib.hid (by have := HS.out; omega)
        generalize hvN l k = n0 at hle HM HS hb hm
        generalize l[k].1.length = a at e1 bx HS
        generalize l[k].2.length = b at e2 bY HS
        have s1 : IntKind.i64.wrap ((a : Int) + b) = (a : Int) + b := IntWalk.i64_in _ (by omega)
        have s2 : IntKind.i64.wrap ((n0 : Int) + ((a : Int) + b)) = (n0 : Int) + ((a : Int) + b) := IntWalk.i64_in _ (by omega)
        have S3 : Hid ((n0 : Int) + ((a : Int) + b) = ((hvN l (k + 1) : Nat) : Int)) := Lib.hid (by have := HS.out; omega)
        clear bx bY hb hm
        go_wp2
        go_quiet (fail)
        rw [S3.out]
        go_wp2
        go_roundg (gk - 1)
        case measure => omega
        case rel => exact ⟨k + 1, by omega, by go_num, rfl, H2.out, HD.out.step _⟩
      · have hle : decide ((hvN l k : Int) ≤ 65536) = false := decide_eq_false (by omega)
        have HX : Hid ((hvN l k ≤ 8192 → hvN l l.length ≤ hvN l k) ∧ hvN l k ≤ 1125899906842624) := Lib.hid ⟨fun h => by omega, hb⟩
        clear hm hb HS
        generalize hvN l k = n0 at hle HX
        go_wp2
        go_ret
        exact ⟨n0, rfl, HX.out.1, HX.out.2, HD.out.le⟩
    · have e : k = l.length := by omega
      have HX : Hid ((hvN l k ≤ 8192 → hvN l l.length ≤ hvN l k) ∧ hvN l k ≤ 1125899906842624) := Lib.hid ⟨fun _ => by rw [e]; exact Nat.le_refl _, hb⟩
      clear e hb
      generalize hvN l k = n0 at HX
      go_wp2
      go_ret
      exact ⟨n0, rfl, HX.out.1, HX.out.2, HD.out.le⟩
end Go.Proofs.YteedhaenbamiaaaGreatDoor
