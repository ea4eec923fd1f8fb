/- Contracts: a host that holds no colon and does not begin with a digit is no address of the sixth version. -/
import Derived.Test.YtainljmnhocbgaaGreatDoorLow
set_option linter.unusedVariables false
set_option linter.unusedSimpArgs false
namespace Go.Proofs.YtainljmnhocbgaaGreatDoor
open Go.RowKit

/-- begins with neither a digit nor a point -/
def begB (c : UInt8) : Bool := !(48 ≤ c && c ≤ 57) && c != 46
theorem u8_le {x : UInt8} {n : Nat} (hn : n < 256) : (x ≤ UInt8.ofNat n) ↔ ((x.toNat : Int) ≤ n) := by
  rw [UInt8.le_iff_toNat_le, UInt8.toNat_ofNat', Nat.mod_eq_of_lt hn]; omega
theorem beg_facts {x : UInt8} (h : begB x = true) : ((x.toNat : Int) < 48 ∨ 57 < (x.toNat : Int)) ∧ (x.toNat : Int) ≠ 46 := by
  unfold begB at h
  simp only [Bool.and_eq_true, Bool.not_eq_true', Bool.and_eq_false_iff, decide_eq_false_iff_not, bne_iff_ne, UInt8.le_iff_toNat_le] at h
  have e48 : (48 : UInt8).toNat = 48 := rfl
  have e57 : (57 : UInt8).toNat = 57 := rfl
  rw [e48, e57] at h
  refine ⟨by omega, fun e => h.2 (u8_of (n := 46) e (by decide))⟩

set_option maxRecDepth 4000 in
set_option maxHeartbeats 1000000 in
theorem v4fields_c (s : ByteArray) (w : World) (v : Value) (h0 : 0 < s.size) (hb : begB (s[0]'h0) = true) :
    Calls Tryz.prog 150 #[.string s, .int .i64 0, .int .i64 s.size, v] w fun e w' => ∃ T x, e = .returned (.iface T x) ∧ Le w w' := by
  obtain ⟨h1, h2⟩ := beg_facts hb
  have hsl : s.extract 0 s.size = s := by rw [ext_drop]; exact st_bs s
  clear hb
  go_enter Tryz.func150, Tryz.ntmps150
  go_wp2
  refine wp_loop_once ?_
  have hn46 : (((s[0]'h0).toNat : Int) == 46) = false := by simpa using h2
  have hlt : decide ((0 : Int) < (s.size : Int)) = true := by simpa using h0
  clear h2
  rcases h1 with h1 | h1
  · go_wp2
    go_ret
    exact ⟨⟨_, _, rfl⟩, Le.refl w⟩
  · have h3 : (48 : Int) ≤ ((s[0]'h0).toNat : Int) := by omega
    go_wp2
    go_ret
    exact ⟨_, _, rfl, Le.refl _⟩

theorem addr_size : ((Tryz.prog).info? 195).map (·.size) = some 3 := by kernel_rfl
/-- the three cells of an address's block, set to nothing: what is read of it is nothing -/
theorem addr_zero {w : World} {b : Nat} (h : w.heap[b]? = some (.cells #[.int .u64 0, .int .u64 0, .pointer none] 195 (0, 0))) :
    (((w.setCell ⟨b, 0, none⟩ (.int .u64 0)).setCell ⟨b, 1, none⟩ (.int .u64 0)).setCell ⟨b, 2, none⟩ (.pointer none)).heap[b]? = some (.cells #[.int .u64 0, .int .u64 0, .pointer none] 195 (0, 0)) :=
  heap_set (heap_set (heap_set h 0 _) 1 _) 2 _
def zaddr : Value := .agg #[.int .u64 0, .int .u64 0, .pointer none]

set_option maxRecDepth 4000 in
set_option maxHeartbeats 1000000 in
theorem v4_c (s : ByteArray) (w : World) (h0 : 0 < s.size) (hb : begB (s[0]'h0) = true) :
    Calls Tryz.prog 138 #[.string s] w fun e w' => ∃ T y, e = .returned (.tuple #[zaddr, .iface T y]) ∧ Le w w' := by
  have HB := Lib.hid hb
  clear hb
  go_enter Tryz.func138, Tryz.ntmps138
  go_wp2_with fail
  have hbl : ∀ o, ((w.alloc (Obj.cells #[.int .u64 0, .int .u64 0, .pointer none] 195)).alloc o).heap[w.heap.size]? = some (Obj.cells #[.int .u64 0, .int .u64 0, .pointer none] 195) := fun o => heap_alloc2_old w _ o
  refine (v4fields_c s _ _ h0 HB.out).mono ?_
  rintro e w' ⟨T, x, rfl, hle⟩
  have hb := Le.heap hle (hbl _)
  have HLE : Hid (Le w w') := Lib.hid (Le.trans (((Le.refl w).alloc _).alloc _) hle)
  have HB2 := Lib.hid hb
  have c0 : w'.cell? ⟨w.heap.size, 0, none⟩ = some (.int .u64 0) := cell_cells hb 0
  have c1 : w'.cell? ⟨w.heap.size, 1, none⟩ = some (.int .u64 0) := cell_cells hb 1
  have c2 : w'.cell? ⟨w.heap.size, 2, none⟩ = some (.pointer none) := cell_cells hb 2
  have z0 := frozen_cells hb 0
  have z1 := frozen_cells hb 1
  have z2 := frozen_cells hb 2
  clear hb hle hbl
  go_wp2
  (try simp only [Exit.inBlock, Exit.then])
  refine bodyPost_ret (v := .tuple #[zaddr, .iface T x]) ?_ rfl ?_
  · rw [results_cell_tmp rfl]
    change ((asAddr (.pointer (some ⟨w.heap.size, 0, none⟩))).run Tryz.prog _).andThen _ = _
    simp only [asAddr, Sem.run_pure, Result.andThen_ok, run_loadVar_row _ _ _ _ _ _ _ (addr_zero HB2.out) Tryz.underlying195 rfl addr_size]
    rfl
  · exact ⟨T, x, rfl, ((HLE.out.setCell (Nat.le_refl _) _).setCell (Nat.le_refl _) _).setCell (Nat.le_refl _) _⟩

set_option maxRecDepth 4000 in
set_option maxHeartbeats 2000000 in
theorem paddr_c (s : ByteArray) (w : World) (hb : ∀ h0 : 0 < s.size, begB (s[0]'h0) = true) (hn : ∀ k (h : k < s.size), s[k]'h ≠ 58) (hs : s.size ≤ 1099511627776) :
    Calls Tryz.prog 128 #[.string s] w fun e w' => ∃ T y, e = .returned (.tuple #[zaddr, .iface T y]) ∧ Le w w' := by
  have HB := Lib.hid hb
  have HNO := Lib.hid hn
  clear hb hn
  go_enter Tryz.func128, Tryz.ntmps128
  go_wp2
  go_loopg [4] (s.size) (fun n i wr => ∃ k : Nat, n + k = s.size ∧ i = .int .i64 k ∧ Le w wr ∧ wr.heap[w.heap.size]? = some (Obj.cells #[.int .u64 0, .int .u64 0, .pointer none] 195))
  case atStart => exact ⟨0, by omega, rfl, (Le.refl w).alloc _, heap_alloc_new w _⟩
  case round =>
    obtain ⟨k, hn, rfl, hle, hbk⟩ := hrel
    have HLE := Lib.hid hle
    have HBK := Lib.hid hbk
    have HN : gk + k ≤ s.size ∧ s.size ≤ gk + k := by omega
    clear hn hle
    by_cases hlt : k < s.size
    · have hne := HNO.out k hlt
      have e58 : (((s[k]'hlt).toNat : Int) == 58) = false := by
        simp only [beq_eq_false_iff_ne, ne_eq]; intro h; exact hne (u8_of (n := 58) h (by decide))
      clear hne
      by_cases h46 : ((s[k]'hlt).toNat : Int) = 46
      · have h0 : 0 < s.size := by omega
        clear hbk e58
        go_wp2_with fail
        refine (v4_c s _ h0 (HB.out h0)).mono ?_
        rintro e w2 ⟨T, y, rfl, hle2⟩
        have hb2 := hle2.heap HBK.out
        have HLE2 : Hid (Le w w2) := Lib.hid (Le.trans HLE.out hle2)
        have HB2 := Lib.hid hb2
        have c0 : w2.cell? ⟨w.heap.size, 0, none⟩ = some (.int .u64 0) := cell_cells hb2 0
        have c1 : w2.cell? ⟨w.heap.size, 1, none⟩ = some (.int .u64 0) := cell_cells hb2 1
        have c2 : w2.cell? ⟨w.heap.size, 2, none⟩ = some (.pointer none) := cell_cells hb2 2
        have z0 : w2.frozen? ⟨w.heap.size, 0, none⟩ = false := frozen_cells hb2 0
        have z1 : w2.frozen? ⟨w.heap.size, 1, none⟩ = false := frozen_cells hb2 1
        have z2 : w2.frozen? ⟨w.heap.size, 2, none⟩ = false := frozen_cells hb2 2
        clear hb2 hle2
        unfold zaddr
        go_wp2
        (try simp only [Exit.inBlock, Exit.then])
        refine bodyPost_ret (v := .tuple #[zaddr, ?x1]) ?qa1 rfl ?qb1
        case qa1 =>
          rw [results_cell_tmp rfl]
          change ((asAddr (.pointer (some ⟨w.heap.size, 0, none⟩))).run Tryz.prog _).andThen _ = _
          simp only [asAddr, Sem.run_pure, Result.andThen_ok, run_loadVar_row _ _ _ _ _ _ _ (addr_zero HB2.out) Tryz.underlying195 rfl addr_size]
          rfl
        case qb1 => exact ⟨_, _, rfl, ((HLE2.out.setCell (Nat.le_refl _) _).setCell (Nat.le_refl _) _).setCell (Nat.le_refl _) _⟩
      · have e46 : (((s[k]'hlt).toNat : Int) == 46) = false := by simpa using h46
        clear h46
        by_cases h37 : ((s[k]'hlt).toNat : Int) = 37
        · have c0 : wr.cell? ⟨w.heap.size, 0, none⟩ = some (.int .u64 0) := cell_cells hbk 0
          have c1 : wr.cell? ⟨w.heap.size, 1, none⟩ = some (.int .u64 0) := cell_cells hbk 1
          have c2 : wr.cell? ⟨w.heap.size, 2, none⟩ = some (.pointer none) := cell_cells hbk 2
          have z0 : wr.frozen? ⟨w.heap.size, 0, none⟩ = false := frozen_cells hbk 0
          have z1 : wr.frozen? ⟨w.heap.size, 1, none⟩ = false := frozen_cells hbk 1
          have z2 : wr.frozen? ⟨w.heap.size, 2, none⟩ = false := frozen_cells hbk 2
          clear hbk e58 e46
          go_wp2
          (try simp only [Exit.inBlock, Exit.then])
          refine bodyPost_ret (v := .tuple #[zaddr, ?x2]) ?qa2 rfl ?qb2
          case qa2 =>
            rw [results_cell_tmp rfl]
            change ((asAddr (.pointer (some ⟨w.heap.size, 0, none⟩))).run Tryz.prog _).andThen _ = _
            simp only [asAddr, Sem.run_pure, Result.andThen_ok, run_loadVar_row _ _ _ _ _ _ _ (addr_zero HBK.out) Tryz.underlying195 rfl addr_size]
            rfl
          case qb2 => exact ⟨_, _, rfl, ((HLE.out.setCell (Nat.le_refl _) _).setCell (Nat.le_refl _) _).setCell (Nat.le_refl _) _⟩
        · have e37 : (((s[k]'hlt).toNat : Int) == 37) = false := by simpa using h37
          clear h37 hbk
          go_wp2
          go_roundg (gk - 1)
          case measure => omega
          case rel => exact ⟨k + 1, by omega, by go_num, HLE.out, HBK.out⟩
    · have c0 : wr.cell? ⟨w.heap.size, 0, none⟩ = some (.int .u64 0) := cell_cells hbk 0
      have c1 : wr.cell? ⟨w.heap.size, 1, none⟩ = some (.int .u64 0) := cell_cells hbk 1
      have c2 : wr.cell? ⟨w.heap.size, 2, none⟩ = some (.pointer none) := cell_cells hbk 2
      have z0 : wr.frozen? ⟨w.heap.size, 0, none⟩ = false := frozen_cells hbk 0
      have z1 : wr.frozen? ⟨w.heap.size, 1, none⟩ = false := frozen_cells hbk 1
      have z2 : wr.frozen? ⟨w.heap.size, 2, none⟩ = false := frozen_cells hbk 2
      clear hbk
      go_wp2
      (try simp only [Exit.inBlock, Exit.then])
      refine bodyPost_ret (v := .tuple #[zaddr, ?x3]) ?qa3 rfl ?qb3
      case qa3 =>
        rw [results_cell_tmp rfl]
        change ((asAddr (.pointer (some ⟨w.heap.size, 0, none⟩))).run Tryz.prog _).andThen _ = _
        simp only [asAddr, Sem.run_pure, Result.andThen_ok, run_loadVar_row _ _ _ _ _ _ _ (addr_zero HBK.out) Tryz.underlying195 rfl addr_size]
        rfl
      case qb3 => exact ⟨_, _, rfl, ((HLE.out.setCell (Nat.le_refl _) _).setCell (Nat.le_refl _) _).setCell (Nat.le_refl _) _⟩

theorem ip_size : ((Tryz.prog).info? 175).map (·.size) = some 16 := by kernel_rfl
def zip : Value := .agg #[.int .u8 0, .int .u8 0, .int .u8 0, .int .u8 0, .int .u8 0, .int .u8 0, .int .u8 0, .int .u8 0, .int .u8 0, .int .u8 0, .int .u8 0, .int .u8 0, .int .u8 0, .int .u8 0, .int .u8 0, .int .u8 0]
theorem ip_zero {w : World} {b : Nat} (h : w.heap[b]? = some (.cells #[.int .u8 0, .int .u8 0, .int .u8 0, .int .u8 0, .int .u8 0, .int .u8 0, .int .u8 0, .int .u8 0, .int .u8 0, .int .u8 0, .int .u8 0, .int .u8 0, .int .u8 0, .int .u8 0, .int .u8 0, .int .u8 0] 175 (0, 0))) :
    ((((((((((((((((w.setCell ⟨b, 0, none⟩ (.int .u8 0)).setCell ⟨b, 1, none⟩ (.int .u8 0)).setCell ⟨b, 2, none⟩ (.int .u8 0)).setCell ⟨b, 3, none⟩ (.int .u8 0)).setCell ⟨b, 4, none⟩ (.int .u8 0)).setCell ⟨b, 5, none⟩ (.int .u8 0)).setCell ⟨b, 6, none⟩ (.int .u8 0)).setCell ⟨b, 7, none⟩ (.int .u8 0)).setCell ⟨b, 8, none⟩ (.int .u8 0)).setCell ⟨b, 9, none⟩ (.int .u8 0)).setCell ⟨b, 10, none⟩ (.int .u8 0)).setCell ⟨b, 11, none⟩ (.int .u8 0)).setCell ⟨b, 12, none⟩ (.int .u8 0)).setCell ⟨b, 13, none⟩ (.int .u8 0)).setCell ⟨b, 14, none⟩ (.int .u8 0)).setCell ⟨b, 15, none⟩ (.int .u8 0)).heap[b]? = some (.cells #[.int .u8 0, .int .u8 0, .int .u8 0, .int .u8 0, .int .u8 0, .int .u8 0, .int .u8 0, .int .u8 0, .int .u8 0, .int .u8 0, .int .u8 0, .int .u8 0, .int .u8 0, .int .u8 0, .int .u8 0, .int .u8 0] 175 (0, 0)) := (heap_set (heap_set (heap_set (heap_set (heap_set (heap_set (heap_set (heap_set (heap_set (heap_set (heap_set (heap_set (heap_set (heap_set (heap_set (heap_set h 0 _) 1 _) 2 _) 3 _) 4 _) 5 _) 6 _) 7 _) 8 _) 9 _) 10 _) 11 _) 12 _) 13 _) 14 _) 15 _)
theorem ip_le {a w : World} {b : Nat} (k : Le a w) (hb : a.heap.size ≤ b) : Le a ((((((((((((((((w.setCell ⟨b, 0, none⟩ (.int .u8 0)).setCell ⟨b, 1, none⟩ (.int .u8 0)).setCell ⟨b, 2, none⟩ (.int .u8 0)).setCell ⟨b, 3, none⟩ (.int .u8 0)).setCell ⟨b, 4, none⟩ (.int .u8 0)).setCell ⟨b, 5, none⟩ (.int .u8 0)).setCell ⟨b, 6, none⟩ (.int .u8 0)).setCell ⟨b, 7, none⟩ (.int .u8 0)).setCell ⟨b, 8, none⟩ (.int .u8 0)).setCell ⟨b, 9, none⟩ (.int .u8 0)).setCell ⟨b, 10, none⟩ (.int .u8 0)).setCell ⟨b, 11, none⟩ (.int .u8 0)).setCell ⟨b, 12, none⟩ (.int .u8 0)).setCell ⟨b, 13, none⟩ (.int .u8 0)).setCell ⟨b, 14, none⟩ (.int .u8 0)).setCell ⟨b, 15, none⟩ (.int .u8 0)) := ((((((((((((((((k.setCell hb _).setCell hb _).setCell hb _).setCell hb _).setCell hb _).setCell hb _).setCell hb _).setCell hb _).setCell hb _).setCell hb _).setCell hb _).setCell hb _).setCell hb _).setCell hb _).setCell hb _).setCell hb _)

set_option maxRecDepth 8000 in
set_option maxHeartbeats 4000000 in
theorem parseIP_c (s : ByteArray) (w : World) (hb : ∀ h0 : 0 < s.size, begB (s[0]'h0) = true) (hn : ∀ k (h : k < s.size), s[k]'h ≠ 58) (hs : s.size ≤ 1099511627776) :
    Calls Tryz.prog 117 #[.string s] w fun e w' => e = .returned (.tuple #[zip, .bool false]) ∧ Le w w' := by
  have HB := Lib.hid hb
  have HNO := Lib.hid hn
  clear hb hn
  go_enter Tryz.func117, Tryz.ntmps117
  go_wp2_with fail
  refine (paddr_c s _ HB.out HNO.out hs).mono ?_
  rintro e w2 ⟨T, y, rfl, hle2⟩
  have hb2 : w2.heap[w.heap.size]? = some (Obj.cells #[.int .u8 0, .int .u8 0, .int .u8 0, .int .u8 0, .int .u8 0, .int .u8 0, .int .u8 0, .int .u8 0, .int .u8 0, .int .u8 0, .int .u8 0, .int .u8 0, .int .u8 0, .int .u8 0, .int .u8 0, .int .u8 0] 175) := hle2.heap (heap_alloc_new w _)
  have HLE2 : Hid (Le w w2) := Lib.hid (Le.trans ((Le.refl w).alloc _) hle2)
  have hb3 := Le.heap ((Le.refl w2).alloc (Obj.cells #[.int .u64 0, .int .u64 0, .pointer none] 195)) hb2
  have HB3 := Lib.hid hb3
  have c0 : (w2.alloc (Obj.cells #[.int .u64 0, .int .u64 0, .pointer none] 195)).cell? ⟨w.heap.size, 0, none⟩ = some (.int .u8 0) := cell_cells hb3 0
  have z0 : (w2.alloc (Obj.cells #[.int .u64 0, .int .u64 0, .pointer none] 195)).frozen? ⟨w.heap.size, 0, none⟩ = false := frozen_cells hb3 0
  have c1 : (w2.alloc (Obj.cells #[.int .u64 0, .int .u64 0, .pointer none] 195)).cell? ⟨w.heap.size, 1, none⟩ = some (.int .u8 0) := cell_cells hb3 1
  have z1 : (w2.alloc (Obj.cells #[.int .u64 0, .int .u64 0, .pointer none] 195)).frozen? ⟨w.heap.size, 1, none⟩ = false := frozen_cells hb3 1
  have c2 : (w2.alloc (Obj.cells #[.int .u64 0, .int .u64 0, .pointer none] 195)).cell? ⟨w.heap.size, 2, none⟩ = some (.int .u8 0) := cell_cells hb3 2
  have z2 : (w2.alloc (Obj.cells #[.int .u64 0, .int .u64 0, .pointer none] 195)).frozen? ⟨w.heap.size, 2, none⟩ = false := frozen_cells hb3 2
  have c3 : (w2.alloc (Obj.cells #[.int .u64 0, .int .u64 0, .pointer none] 195)).cell? ⟨w.heap.size, 3, none⟩ = some (.int .u8 0) := cell_cells hb3 3
  have z3 : (w2.alloc (Obj.cells #[.int .u64 0, .int .u64 0, .pointer none] 195)).frozen? ⟨w.heap.size, 3, none⟩ = false := frozen_cells hb3 3
  have c4 : (w2.alloc (Obj.cells #[.int .u64 0, .int .u64 0, .pointer none] 195)).cell? ⟨w.heap.size, 4, none⟩ = some (.int .u8 0) := cell_cells hb3 4
  have z4 : (w2.alloc (Obj.cells #[.int .u64 0, .int .u64 0, .pointer none] 195)).frozen? ⟨w.heap.size, 4, none⟩ = false := frozen_cells hb3 4
  have c5 : (w2.alloc (Obj.cells #[.int .u64 0, .int .u64 0, .pointer none] 195)).cell? ⟨w.heap.size, 5, none⟩ = some (.int .u8 0) := cell_cells hb3 5
  have z5 : (w2.alloc (Obj.cells #[.int .u64 0, .int .u64 0, .pointer none] 195)).frozen? ⟨w.heap.size, 5, none⟩ = false := frozen_cells hb3 5
  have c6 : (w2.alloc (Obj.cells #[.int .u64 0, .int .u64 0, .pointer none] 195)).cell? ⟨w.heap.size, 6, none⟩ = some (.int .u8 0) := cell_cells hb3 6
  have z6 : (w2.alloc (Obj.cells #[.int .u64 0, .int .u64 0, .pointer none] 195)).frozen? ⟨w.heap.size, 6, none⟩ = false := frozen_cells hb3 6
  have c7 : (w2.alloc (Obj.cells #[.int .u64 0, .int .u64 0, .pointer none] 195)).cell? ⟨w.heap.size, 7, none⟩ = some (.int .u8 0) := cell_cells hb3 7
  have z7 : (w2.alloc (Obj.cells #[.int .u64 0, .int .u64 0, .pointer none] 195)).frozen? ⟨w.heap.size, 7, none⟩ = false := frozen_cells hb3 7
  have c8 : (w2.alloc (Obj.cells #[.int .u64 0, .int .u64 0, .pointer none] 195)).cell? ⟨w.heap.size, 8, none⟩ = some (.int .u8 0) := cell_cells hb3 8
  have z8 : (w2.alloc (Obj.cells #[.int .u64 0, .int .u64 0, .pointer none] 195)).frozen? ⟨w.heap.size, 8, none⟩ = false := frozen_cells hb3 8
  have c9 : (w2.alloc (Obj.cells #[.int .u64 0, .int .u64 0, .pointer none] 195)).cell? ⟨w.heap.size, 9, none⟩ = some (.int .u8 0) := cell_cells hb3 9
  have z9 : (w2.alloc (Obj.cells #[.int .u64 0, .int .u64 0, .pointer none] 195)).frozen? ⟨w.heap.size, 9, none⟩ = false := frozen_cells hb3 9
  have c10 : (w2.alloc (Obj.cells #[.int .u64 0, .int .u64 0, .pointer none] 195)).cell? ⟨w.heap.size, 10, none⟩ = some (.int .u8 0) := cell_cells hb3 10
  have z10 : (w2.alloc (Obj.cells #[.int .u64 0, .int .u64 0, .pointer none] 195)).frozen? ⟨w.heap.size, 10, none⟩ = false := frozen_cells hb3 10
  have c11 : (w2.alloc (Obj.cells #[.int .u64 0, .int .u64 0, .pointer none] 195)).cell? ⟨w.heap.size, 11, none⟩ = some (.int .u8 0) := cell_cells hb3 11
  have z11 : (w2.alloc (Obj.cells #[.int .u64 0, .int .u64 0, .pointer none] 195)).frozen? ⟨w.heap.size, 11, none⟩ = false := frozen_cells hb3 11
  have c12 : (w2.alloc (Obj.cells #[.int .u64 0, .int .u64 0, .pointer none] 195)).cell? ⟨w.heap.size, 12, none⟩ = some (.int .u8 0) := cell_cells hb3 12
  have z12 : (w2.alloc (Obj.cells #[.int .u64 0, .int .u64 0, .pointer none] 195)).frozen? ⟨w.heap.size, 12, none⟩ = false := frozen_cells hb3 12
  have c13 : (w2.alloc (Obj.cells #[.int .u64 0, .int .u64 0, .pointer none] 195)).cell? ⟨w.heap.size, 13, none⟩ = some (.int .u8 0) := cell_cells hb3 13
  have z13 : (w2.alloc (Obj.cells #[.int .u64 0, .int .u64 0, .pointer none] 195)).frozen? ⟨w.heap.size, 13, none⟩ = false := frozen_cells hb3 13
  have c14 : (w2.alloc (Obj.cells #[.int .u64 0, .int .u64 0, .pointer none] 195)).cell? ⟨w.heap.size, 14, none⟩ = some (.int .u8 0) := cell_cells hb3 14
  have z14 : (w2.alloc (Obj.cells #[.int .u64 0, .int .u64 0, .pointer none] 195)).frozen? ⟨w.heap.size, 14, none⟩ = false := frozen_cells hb3 14
  have c15 : (w2.alloc (Obj.cells #[.int .u64 0, .int .u64 0, .pointer none] 195)).cell? ⟨w.heap.size, 15, none⟩ = some (.int .u8 0) := cell_cells hb3 15
  have z15 : (w2.alloc (Obj.cells #[.int .u64 0, .int .u64 0, .pointer none] 195)).frozen? ⟨w.heap.size, 15, none⟩ = false := frozen_cells hb3 15
  clear hb2 hb3 hle2
  unfold zaddr
  go_wp2
  (try simp only [Exit.inBlock, Exit.then])
  refine bodyPost_ret (v := .tuple #[zip, .bool false]) ?_ rfl ?_
  · rw [results_cell_tmp rfl]
    change ((asAddr (.pointer (some ⟨w.heap.size, 0, none⟩))).run Tryz.prog _).andThen _ = _
    simp only [asAddr, Sem.run_pure, Result.andThen_ok, run_loadVar_row _ _ _ _ _ _ _ (ip_zero HB3.out) Tryz.underlying175 rfl ip_size]
    rfl
  · exact ⟨rfl, ip_le (HLE2.out.alloc _) (Nat.le_refl _)⟩

set_option maxRecDepth 8000 in
set_option maxHeartbeats 4000000 in
theorem netParseIP_c (s : ByteArray) (w : World) (hb : ∀ h0 : 0 < s.size, begB (s[0]'h0) = true) (hn : ∀ k (h : k < s.size), s[k]'h ≠ 58) (hs : s.size ≤ 1099511627776) :
    Calls Tryz.prog 103 #[.string s] w fun e w' => e = .returned (.slice none 0 0) ∧ Le w w' := by
  have HB := Lib.hid hb
  have HNO := Lib.hid hn
  clear hb hn
  go_enter Tryz.func103, Tryz.ntmps103
  go_wp2_with fail
  refine (parseIP_c s _ HB.out HNO.out hs).mono ?_
  rintro e w2 ⟨rfl, hle2⟩
  have HLE2 := Lib.hid hle2
  clear hle2
  unfold zip
  go_wp2
  go_ret
  exact ⟨rfl, HLE2.out.alloc _⟩

set_option maxRecDepth 8000 in
set_option maxHeartbeats 4000000 in
theorem isIPV6_c (s : ByteArray) (w : World) (hb : ∀ h0 : 0 < s.size, begB (s[0]'h0) = true) (hn : ∀ k (h : k < s.size), s[k]'h ≠ 58) (hs : s.size ≤ 1099511627776) :
    Calls Tryz.prog 96 #[.string s] w fun e w' => e = .returned (.bool false) ∧ Le w w' := by
  have HB := Lib.hid hb
  have HNO := Lib.hid hn
  clear hb hn
  go_enter Tryz.func96, Tryz.ntmps96
  go_wp2
  go_loopg [] (s.size) (fun n wr => ∃ p : Nat, n + p = s.size ∧ Le w wr ∧ wr.heap[w.heap.size]? = some (.stringIter s p))
  case atStart => exact ⟨0, by omega, (Le.refl w).iter s 0, World.iter_heap _ _ _⟩
  case round =>
    obtain ⟨p, hn, hle, hit⟩ := hrel
    have HLE := Lib.hid hle
    have HN : gk + p ≤ s.size ∧ s.size ≤ gk + p := by omega
    clear hn hle
    by_cases hlt : p < s.size
    · obtain ⟨c, d, W1, hnx, hst, hit1, hW1⟩ := next_step (P := Tryz.prog) hit hlt
      have HLE1 := Lib.hid (hW1 ▸ HLE.out.iterAt (Nat.le_refl _) s (p + d) : Le w W1)
      have HS2 : 1 ≤ d ∧ p + d ≤ s.size ∧ 0 ≤ c ∧ c ≤ 1114111 := ⟨hst.1, hst.2.1, hst.2.2.1, hst.2.2.2.1⟩
      have HIT1 := Lib.hid hit1
      clear hW1 hst hit hit1
      by_cases h46 : p = 46
      · have e46 : ((p : Int) == 46) = true := by simp [h46]
        clear h46
        go_wp2
        go_ret
        exact ⟨rfl, HLE1.out⟩
      · have e46 : ((p : Int) == 46) = false := beq_eq_false_iff_ne.2 (by omega)
        clear h46
        by_cases h58 : p = 58
        · have e58 : ((p : Int) == 58) = true := by simp [h58]
          clear h58
          go_wp2_with fail
          refine (netParseIP_c s _ HB.out HNO.out hs).mono ?_
          rintro e w2 ⟨rfl, hle2⟩
          have HLE2 := Lib.hid (HLE1.out.trans hle2)
          clear hle2
          go_wp2
          go_ret
          exact ⟨rfl, HLE2.out⟩
        · have e58 : ((p : Int) == 58) = false := beq_eq_false_iff_ne.2 (by omega)
          clear h58
          go_wp2
          go_roundg (gk - d)
          case measure => omega
          case rel => exact ⟨p + d, by omega, HLE1.out, HIT1.out⟩
    · have hnx := fun ty => Lib.run_next_end_at (P := Tryz.prog) wr _ s p ty hit hlt
      clear hit
      go_wp2_with fail
      refine (netParseIP_c s _ HB.out HNO.out hs).mono ?_
      rintro e w2 ⟨rfl, hle2⟩
      have HLE2 := Lib.hid (HLE.out.trans hle2)
      clear hle2
      go_wp2
      go_ret
      exact ⟨rfl, HLE2.out⟩

theorem uriIP_c (s : ByteArray) (w : World) (hb : ∀ h0 : 0 < s.size, begB (s[0]'h0) = true) (hn : ∀ k (h : k < s.size), s[k]'h ≠ 58) (hs : s.size ≤ 1099511627776) :
    Calls Tryz.prog 85 #[.string s] w fun e w' => e = .returned (.string s) ∧ Le w w' := by
  go_enter Tryz.func85, Tryz.ntmps85
  go_wp2_with fail
  refine (isIPV6_c s _ hb hn hs).mono ?_
  rintro e w2 ⟨rfl, hle2⟩
  go_wp2
  go_ret
  exact ⟨rfl, hle2⟩
end Go.Proofs.YtainljmnhocbgaaGreatDoor
