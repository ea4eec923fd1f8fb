/- Contracts: a host that holds no colon is no address of the sixth version: its sixteen bytes. -/
import Derived.Test.YtbdeohmdpkkpdaaGreatDoorIpb
set_option linter.unusedVariables false
set_option linter.unusedSimpArgs false
namespace Go.Proofs.YtbdeohmdpkkpdaaGreatDoor
open Go.RowKit

theorem kp_dr {b : Nat} {w0 w : World} (k : Kp b w0 w) : Kp b w0 w.drew := k.le (Le.refl _).drew
theorem v4N_bytes {X : Int} (h : V4N X) : 0 ≤ X ∧ X < 281474976710656 ∧ X / 72057594037927936 = 0 ∧ X / 281474976710656 = 0 ∧ X / 1099511627776 = 255 ∧ X / 4294967296 % 256 = 255 := by
  obtain ⟨N, rfl, h1, h2⟩ := h
  omega
def IP16 (cs : Array Value) : Prop := ∃ a b c d : Int, cs = u8L [0, 0, 0, 0, 0, 0, 0, 0, 0, 0, 255, 255, a, b, c, d]
theorem ip_results {F : Func} {W : World} {b : Nat} {R : Array Value} {tmps : Array Value} (hF : F.results = #[.cell 2 238]) (hb : W.heap[b]? = some (.cells R 238 (0, 0))) (hs : R.size = 16)
    (h2 : tmps.getD 2 undef = .pointer (some ⟨b, 0, none⟩)) : (results F tmps).run Tryz.prog W = .ok (.agg R) W :=
  results_cell_row hF _ _ b 238 _ (0, 0) _ h2 hb Tryz.underlying238 rfl (by rw [hs]; exact ip_size)
theorem sl_lo (b : Nat) (W : World) : (Instr.sliceAt 238 (.pointer (some ⟨b, 0, none⟩)) none (some (.int .i64 8)) none).run Tryz.prog W = .ok (.slice (some ⟨b, 0, none⟩) 8 16) W := by kernel_rfl
theorem sl_hi (b : Nat) (W : World) : (Instr.sliceAt 238 (.pointer (some ⟨b, 0, none⟩)) (some (.int .i64 8)) none none).run Tryz.prog W = .ok (.slice (some ⟨b, 8, none⟩) 8 8) W := by kernel_rfl
theorem sl_all (b : Nat) (W : World) : (Instr.sliceAt 238 (.pointer (some ⟨b, 0, none⟩)) none none none).run Tryz.prog W = .ok (.slice (some ⟨b, 0, none⟩) 16 16) W := by kernel_rfl
set_option maxRecDepth 8000 in
set_option maxHeartbeats 4000000 in
theorem as16_c (w : World) (X : Int) (p : Value) (hX : V4N X) :
    Calls Tryz.prog 163 #[.agg #[.int .u64 0, .int .u64 X, p]] w fun e w' => ∃ cs, e = .returned (.agg cs) ∧ IP16 cs ∧ Le w w' := by
  obtain ⟨x0, x1, x2, x3, x4, x5⟩ := v4N_bytes hX
  clear hX
  have h1 := sl_lo (w.heap.size + 1)
  have h2 := sl_hi (w.heap.size + 1)
  go_enter Tryz.func163, Tryz.ntmps163
  go_wp2
  have hb : ((w.alloc (Obj.cells #[.int .u64 0, .int .u64 X, p] 254)).alloc (Obj.cells (u8L [0, 0, 0, 0, 0, 0, 0, 0, 0, 0, 0, 0, 0, 0, 0, 0]) 238)).heap[w.heap.size + 1]? = some (.cells (u8L [0, 0, 0, 0, 0, 0, 0, 0, 0, 0, 0, 0, 0, 0, 0, 0]) 238 (0, 0)) := heap_alloc2_new w _ _
  have ha : ((w.alloc (Obj.cells #[.int .u64 0, .int .u64 X, p] 254)).alloc (Obj.cells (u8L [0, 0, 0, 0, 0, 0, 0, 0, 0, 0, 0, 0, 0, 0, 0, 0]) 238)).heap[w.heap.size]? = some (.cells #[.int .u64 0, .int .u64 X, p] 254 (0, 0)) := heap_alloc2_old w _ _
  have hle : Le w ((w.alloc (Obj.cells #[.int .u64 0, .int .u64 X, p] 254)).alloc (Obj.cells (u8L [0, 0, 0, 0, 0, 0, 0, 0, 0, 0, 0, 0, 0, 0, 0, 0]) 238)) := ((Le.refl w).alloc _).alloc _
  change Code.wp _ _ _ _ ((w.alloc (Obj.cells #[.int .u64 0, .int .u64 X, p] 254)).alloc (Obj.cells (u8L [0, 0, 0, 0, 0, 0, 0, 0, 0, 0, 0, 0, 0, 0, 0, 0]) 238))
  generalize (w.alloc (Obj.cells #[.int .u64 0, .int .u64 X, p] 254)).alloc (Obj.cells (u8L [0, 0, 0, 0, 0, 0, 0, 0, 0, 0, 0, 0, 0, 0, 0, 0]) 238) = W at hb ha hle ⊢
  have HB := Lib.hid hb
  have HA := Lib.hid ha
  have HLE := Lib.hid hle
  have c0 : W.cell? ⟨w.heap.size, 0, none⟩ = some (.int .u64 0) := cell_cells ha 0
  clear hb ha hle
  go_still_tail 4, (by kernel_rfl)
  change wpList _ _ _ _ _ (World.drew _)
  have HKd : Hid (Kp (w.heap.size + 1) W W.drew) := Lib.hid (kp_dr (Kp.refl _ W))
  have HBd : Hid (W.drew.heap[w.heap.size + 1]? = _) := Lib.hid HB.out
  generalize World.drew _ = Wd at HKd HBd ⊢
  go_wp2_with fail
  refine (put64_c Wd (w.heap.size + 1) 0 16 _ 0 (by decide) (by decide) (by decide) HBd.out).mono ?_
  rintro e w1 ⟨rfl, hk1, hb1⟩
  have HA1 : Hid (w1.heap[w.heap.size]? = _) := Lib.hid ((hk1.heap (by omega) (HKd.out.heap (by omega) HA.out)))
  have HK1 : Hid (Kp (w.heap.size + 1) W w1) := Lib.hid (HKd.out.trans hk1)
  have HB1 := Lib.hid hb1
  have c1 : w1.cell? ⟨w.heap.size, 1, none⟩ = some (.int .u64 X) := cell_cells HA1.out 1
  clear hk1 hb1 c0
  go_wp2
  go_still_tail 4, (by kernel_rfl)
  change wpList _ _ _ _ _ (World.drew _)
  have HKe : Hid (Kp (w.heap.size + 1) W w1.drew) := Lib.hid (kp_dr HK1.out)
  have HBe : Hid (w1.drew.heap[w.heap.size + 1]? = _) := Lib.hid HB1.out
  generalize World.drew _ = We at HKe HBe ⊢
  go_wp2_with fail
  refine (put64_c We (w.heap.size + 1) 8 8 _ X x0 x1 (by decide) HBe.out).mono ?_
  rintro e w2 ⟨rfl, hk2, hb2⟩
  have HK2 : Hid (Kp (w.heap.size + 1) W w2) := Lib.hid (HKe.out.trans hk2)
  have hv : ∃ a b c d : Int, put8 (put8 [0, 0, 0, 0, 0, 0, 0, 0, 0, 0, 0, 0, 0, 0, 0, 0] 0 0) 8 X = [0, 0, 0, 0, 0, 0, 0, 0, 0, 0, 255, 255, a, b, c, d] := by
    refine ⟨X / 16777216 % 256, X / 65536 % 256, X / 256 % 256, X % 256, ?_⟩
    unfold put8
    simp only [x2, x3, x4, x5]
    rfl
  obtain ⟨a, b, c, d, hv⟩ := hv
  rw [hv] at hb2
  have HB2 := Lib.hid hb2
  clear hk2 hb2 c1 hv
  go_wp2_with (first | (refine wpList_load_row rfl 238 (.tmp 2) rfl (w.heap.size + 1) rfl 238 _ (0, 0) _ HB2.out Tryz.underlying238 rfl ip_size ?_) | (refine wpList_store_rowR rfl 238 (.tmp 2) (.tmp 13) rfl (w.heap.size + 1) (u8L [0, 0, 0, 0, 0, 0, 0, 0, 0, 0, 255, 255, a, b, c, d]) rfl rfl 238 (u8L [0, 0, 0, 0, 0, 0, 0, 0, 0, 0, 255, 255, a, b, c, d]) HB2.out ip_size rfl (by unfold u8L; simp only [List.map_cons, List.map_nil, List.all_toArray, List.all_cons, List.all_nil]; rfl) ?_))
  intro w4 hz4 hk4
  have HLE4 : Hid (Le w w4) := Lib.hid (Below.trans HLE.out ((HK2.out.trans hk4).below (by omega) HLE.out.size))
  have HBB := Lib.hid hz4
  clear hz4 hk4
  go_wp2
  (try simp only [Exit.inBlock, Exit.then])
  refine bodyPost_ret (ip_results rfl HBB.out rfl rfl) rfl ?_
  exact ⟨_, rfl, ⟨a, b, c, d, rfl⟩, HLE4.out⟩

def zip16 : List Int := [0, 0, 0, 0, 0, 0, 0, 0, 0, 0, 0, 0, 0, 0, 0, 0]
theorem zip_built : (Tryz.prog).built 238 [] = some (u8L zip16) := by kernel_rfl
theorem u8L_one (zs : List Int) : (u8L zs).all (·.oneCell') = true := by
  unfold u8L
  rw [List.all_toArray, List.all_eq_true]
  intro x hx
  obtain ⟨z, _, rfl⟩ := List.mem_map.1 hx
  rfl
def PIpR (e : Ending) : Prop := ∃ zs ok, e = .returned (.tuple #[.agg (u8L zs), .bool ok]) ∧ zs.length = 16 ∧ (ok = true → IP16 (u8L zs))
theorem ip_results2 {F : Func} {W : World} {b : Nat} {R : Array Value} {a : Act} {ev : Value} (hF : F.results = #[.cell 2 238, .tmp 3]) (hb : W.heap[b]? = some (.cells R 238 (0, 0))) (hs : R.size = 16)
    (h2 : a.tmps.getD 2 undef = .pointer (some ⟨b, 0, none⟩)) (h3 : a.tmps.getD 3 undef = ev) : (results F a.tmps).run Tryz.prog W = .ok (.tuple #[.agg R, ev]) W := by
  rw [results_cell_tmp hF, h2, h3]
  simp only [asAddr, Sem.run_pure, Result.andThen_ok, run_loadVar_row W _ _ _ _ _ _ hb Tryz.underlying238 rfl (by rw [hs]; exact ip_size)]
set_option maxRecDepth 8000 in
set_option maxHeartbeats 4000000 in
theorem parseIP_c (s : ByteArray) (w : World) (hn : ∀ k (h : k < s.size), s[k]'h ≠ 58) (hs : s.size ≤ 1099511627776) (hL : Laid w) :
    Calls Tryz.prog 153 #[.string s] w fun e w' => PIpR e ∧ Le w w' := by
  have HL := Lib.hid hL
  have HNO := Lib.hid hn
  clear hL hn
  go_enter Tryz.func153, Tryz.ntmps153
  go_wp2_with fail
  refine (paddr_c s _ HNO.out hs (HL.out.le ((Le.refl w).alloc _))).mono ?_
  rintro e w2 ⟨R, ev, rfl, hR, hle2⟩
  have hb2 : w2.heap[w.heap.size]? = some (Obj.cells (u8L zip16) 238) := hle2.heap (heap_alloc_new w _)
  have HLE2 : Hid (Le w w2) := Lib.hid (Le.trans ((Le.refl w).alloc _) hle2)
  have HB2 := Lib.hid hb2
  clear hle2 hb2
  rcases hR with ⟨rfl, T, y, rfl⟩ | ⟨rfl, X, b4, o4, rfl, hX, hz⟩
  · unfold zadr
    have HB3 := Lib.hid (((Le.refl w2).alloc (Obj.cells #[.int .u64 0, .int .u64 0, .pointer none] 254)).heap HB2.out)
    have HLE3 := Lib.hid (HLE2.out.alloc (Obj.cells #[.int .u64 0, .int .u64 0, .pointer none] 254))
    go_wp2_with (first | (refine wpList_build0' rfl 238 rfl (some 18) rfl (u8L zip16) zip_built ?_) | (refine wpList_store_rowR rfl 238 (.tmp 2) (.tmp 18) rfl w.heap.size (u8L zip16) rfl rfl 238 (u8L zip16) HB3.out ip_size rfl (u8L_one _) ?_))
    intro w4 hz4 hk4
    have HLE4 : Hid (Le w w4) := Lib.hid (Below.trans HLE3.out (hk4.below (by omega) HLE3.out.size))
    have HBB := Lib.hid hz4
    clear hz4 hk4
    go_wp2
    (try simp only [Exit.inBlock, Exit.then])
    refine bodyPost_ret (ip_results2 rfl HBB.out rfl rfl rfl) rfl ?_
    exact ⟨⟨_, _, rfl, rfl, by intro h; cases h⟩, HLE4.out⟩
  · have HX := Lib.hid hX
    obtain ⟨bz, oz, hz0, hz1, hz2⟩ := (HL.out.le HLE2.out).z4
    have e : (⟨bz, oz, none⟩ : Addr) = ⟨b4, o4, none⟩ := by have := hz0.symm.trans hz; simpa using this
    injection e with e1 e2
    subst e1; subst e2
    have hzz := (HL.out.le HLE2.out).z0
    have HA3 : Hid ((w2.alloc (Obj.cells #[.int .u64 0, .int .u64 X, .pointer (some ⟨bz, oz, none⟩)] 254)).heap[w2.heap.size]? = _) := Lib.hid (heap_alloc_new w2 _)
    have hle3 := (Le.refl w2).alloc (Obj.cells #[.int .u64 0, .int .u64 X, .pointer (some ⟨bz, oz, none⟩)] 254)
    have HB3 := Lib.hid (hle3.heap HB2.out)
    have HLE3 := Lib.hid (HLE2.out.trans hle3)
    have HC := Lib.hid (zone_c _ X bz oz (hle3.cell hzz) (hle3.cell hz1) (hle3.cell hz2))
    clear hX hz hz0 hz1 hz2 hzz hle3
    go_wp2_with fail
    refine HC.out.mono ?_
    rintro e w5 ⟨rfl, hle5⟩
    have HLE5 := Lib.hid (HLE3.out.trans hle5)
    have HB5 := Lib.hid (hle5.heap HB3.out)
    have HA5 := Lib.hid (hle5.heap HA3.out)
    clear hle5
    rw [show (st [] : ByteArray) = ⟨#[]⟩ from rfl]
    go_wp2_with (refine wpList_load_row rfl 254 (.tmp 4) rfl w2.heap.size rfl 254 _ (0, 0) _ HA5.out Tryz.underlying254 rfl addr_size ?_)
    refine (as16_c w5 X _ HX.out).mono ?_
    rintro e w6 ⟨cs, rfl, hcs, hle6⟩
    have hcs' := hcs
    obtain ⟨a, b, c, d, rfl⟩ := hcs'
    have HCS := Lib.hid hcs
    have HLE6 := Lib.hid (HLE5.out.trans hle6)
    have HB6 := Lib.hid (hle6.heap HB5.out)
    clear hle6 hcs
    go_wp2_with (refine wpList_store_rowR rfl 238 (.tmp 2) (.tmp 20) rfl w.heap.size _ rfl rfl 238 (u8L zip16) HB6.out ip_size rfl (u8L_one _) ?_)
    intro w4 hz4 hk4
    have HLE4 : Hid (Le w w4) := Lib.hid (Below.trans HLE6.out (hk4.below (by omega) HLE6.out.size))
    have HBB := Lib.hid hz4
    clear hz4 hk4
    go_wp2
    (try simp only [Exit.inBlock, Exit.then])
    refine bodyPost_ret (ip_results2 rfl HBB.out rfl rfl rfl) rfl ?_
    exact ⟨⟨_, _, rfl, rfl, fun _ => HCS.out⟩, HLE4.out⟩

/-- the slice that the library's reading gives: none, or sixteen bytes of an address of four numbers -/
def SlR (v : Value) (w : World) : Prop := v = .slice none 0 0 ∨ ∃ g a b c d, v = .slice (some ⟨g, 0, none⟩) 16 16 ∧ w.heap[g]? = some (.cells (u8L [0, 0, 0, 0, 0, 0, 0, 0, 0, 0, 255, 255, a, b, c, d]) 238 (0, 0))
set_option maxRecDepth 8000 in
set_option maxHeartbeats 4000000 in
theorem netParseIP_c (s : ByteArray) (w : World) (hn : ∀ k (h : k < s.size), s[k]'h ≠ 58) (hs : s.size ≤ 1099511627776) (hL : Laid w) :
    Calls Tryz.prog 145 #[.string s] w fun e w' => ∃ v, e = .returned v ∧ SlR v w' ∧ Le w w' := by
  go_enter Tryz.func145, Tryz.ntmps145
  go_wp2_with fail
  refine (parseIP_c s w hn hs hL).mono ?_
  rintro e w2 ⟨⟨zs, ok, rfl, hl, hok⟩, hle2⟩
  clear hn hs hL
  have h3 := sl_all w2.heap.size
  have HB0 : Hid ((w2.alloc (Obj.cells (u8L zip16) 238)).heap[w2.heap.size]? = _) := Lib.hid (heap_alloc_new w2 _)
  have HLE3 := Lib.hid (hle2.trans ((Le.refl w2).alloc (Obj.cells (u8L zip16) 238)))
  have HLE2 := Lib.hid hle2
  have hs2 : (u8L zs).size = 16 := by simp [u8L, hl]
  have HS2 := Lib.hid hs2
  have HOK := Lib.hid hok
  clear hle2 hok hl hs2
  go_wp2_with (refine wpList_store_rowR rfl 238 (.tmp 3) (.tmp 8) rfl w2.heap.size (u8L zs) rfl rfl 238 (u8L zip16) HB0.out (by rw [HS2.out]; exact ip_size) (by rw [HS2.out]; rfl) (u8L_one _) ?_)
  intro w4 hz4 hk4
  have HLE4 : Hid (Le w w4) := Lib.hid (Below.trans HLE3.out (hk4.below HLE2.out.size HLE3.out.size))
  have HBB := Lib.hid hz4
  clear hz4 hk4
  cases ok
  · go_wp2
    go_ret
    exact ⟨_, rfl, .inl rfl, HLE4.out⟩
  · go_wp2
    go_ret
    obtain ⟨a, b, c, d, hv⟩ := HOK.out trivial
    have hb := HBB.out
    rw [hv] at hb
    exact ⟨_, rfl, .inr ⟨_, a, b, c, d, rfl, hb⟩, HLE4.out⟩
set_option maxRecDepth 8000 in
set_option maxHeartbeats 4000000 in
theorem isZeros_c (w : World) (g c : Nat) (h : ∀ k, k < 10 → w.cell? ⟨g, k, none⟩ = some (.int .u8 0)) :
    Calls Tryz.prog 154 #[.slice (some ⟨g, 0, none⟩) 10 c] w fun e w' => e = .returned (.bool true) ∧ Le w w' := by
  have H := Lib.hid h
  clear h
  go_enter Tryz.func154, Tryz.ntmps154
  go_wp2
  go_loopg [3] 10 (fun n i wr => ∃ k : Nat, n + k = 10 ∧ i = .int .i64 k ∧ Le w wr)
  case atStart => exact ⟨0, by omega, rfl, Le.refl w⟩
  case round =>
    obtain ⟨k, hn, rfl, hle⟩ := hrel
    have HLE := Lib.hid hle
    have HN : gk + k ≤ 10 ∧ 10 ≤ gk + k := by omega
    clear hn hle
    by_cases hlt : k < 10
    · have hc : wr.cell? ⟨g, k, none⟩ = some (.int .u8 0) := HLE.out.cell (H.out k hlt)
      go_wp2
      go_roundg (gk - 1)
      case measure => omega
      case rel => exact ⟨k + 1, by omega, by go_num, HLE.out⟩
    · go_wp2
      go_ret
      exact ⟨rfl, HLE.out⟩

theorem v4_cell {w : World} {g : Nat} {a b c d : Int} (h : w.heap[g]? = some (.cells (u8L [0, 0, 0, 0, 0, 0, 0, 0, 0, 0, 255, 255, a, b, c, d]) 238 (0, 0))) (k : Nat) (hk : k < 10) : w.cell? ⟨g, k, none⟩ = some (.int .u8 0) := by
  rw [cell_cells h k, u8L_at (by simp; omega)]
  match k, hk with
  | 0, _ | 1, _ | 2, _ | 3, _ | 4, _ | 5, _ | 6, _ | 7, _ | 8, _ | 9, _ => rfl
set_option maxRecDepth 8000 in
set_option maxHeartbeats 4000000 in
theorem to4_c (w : World) (g : Nat) (a b c d : Int) (h : w.heap[g]? = some (.cells (u8L [0, 0, 0, 0, 0, 0, 0, 0, 0, 0, 255, 255, a, b, c, d]) 238 (0, 0))) :
    Calls Tryz.prog 146 #[.slice (some ⟨g, 0, none⟩) 16 16] w fun e w' => e = .returned (.slice (some ⟨g, 12, none⟩) 4 4) ∧ Le w w' := by
  have HZ := Lib.hid (isZeros_c w g 16 (fun k hk => v4_cell h k hk))
  have c10 : w.cell? ⟨g, 10, none⟩ = some (.int .u8 255) := cell_cells h 10
  have c11 : w.cell? ⟨g, 11, none⟩ = some (.int .u8 255) := cell_cells h 11
  have C10 := Lib.hid c10
  have C11 := Lib.hid c11
  clear h c10 c11
  go_enter Tryz.func146, Tryz.ntmps146
  go_wp2_with fail
  refine HZ.out.mono ?_
  rintro e w' ⟨rfl, hle⟩
  have HLE := Lib.hid hle
  have c10 := hle.cell C10.out
  have c11 := hle.cell C11.out
  clear hle
  go_wp2
  go_ret
  exact ⟨rfl, HLE.out⟩

theorem ip_nil (g : Nat) (W : World) : (binOp .eql 234 (.slice (some ⟨g, 12, none⟩) 4 4) (.slice none 0 0)).run Tryz.prog W = .ok (.bool false) W := by kernel_rfl
set_option maxRecDepth 8000 in
set_option maxHeartbeats 4000000 in
theorem isIPV6_c (s : ByteArray) (w : World) (hn : ∀ k (h : k < s.size), s[k]'h ≠ 58) (hs : s.size ≤ 1099511627776) (hL : Laid w) :
    Calls Tryz.prog 141 #[.string s] w fun e w' => e = .returned (.bool false) ∧ Le w w' := by
  have HL := Lib.hid hL
  have HNO := Lib.hid hn
  clear hL hn
  go_enter Tryz.func141, Tryz.ntmps141
  go_wp2
  go_loopg [] (s.size) (fun n wr => ∃ p : Nat, n + p = s.size ∧ Le w wr ∧ wr.heap[w.heap.size]? = some (.stringIter s p))
  case atStart => exact ⟨0, by omega, (Le.refl w).iter s 0, World.iter_heap _ _ _⟩
  case round =>
    obtain ⟨p, hn, hle, hit⟩ := hrel
    have HLE := Lib.hid hle
    have HN : gk + p ≤ s.size ∧ s.size ≤ gk + p := by omega
    clear hn hle
    by_cases hlt : p < s.size
    · obtain ⟨c, d, W1, hnx, hst, hit1, hW1⟩ := next_step (P := Tryz.prog) hit hlt
      have HLE1 := Lib.hid (hW1 ▸ HLE.out.iterAt (Nat.le_refl _) s (p + d) : Le w W1)
      have HS2 : 1 ≤ d ∧ p + d ≤ s.size ∧ 0 ≤ c ∧ c ≤ 1114111 := ⟨hst.1, hst.2.1, hst.2.2.1, hst.2.2.2.1⟩
      have HIT1 := Lib.hid hit1
      clear hW1 hst hit hit1
      by_cases h46 : p = 46
      · have e46 : ((p : Int) == 46) = true := by simp [h46]
        clear h46
        go_wp2
        go_ret
        exact ⟨rfl, HLE1.out⟩
      · have e46 : ((p : Int) == 46) = false := beq_eq_false_iff_ne.2 (by omega)
        clear h46
        by_cases h58 : p = 58
        · have e58 : ((p : Int) == 58) = true := by simp [h58]
          clear h58
          go_wp2_with fail
          refine (netParseIP_c s _ HNO.out hs (HL.out.le HLE1.out)).mono ?_
          rintro e w2 ⟨v, rfl, hv, hle2⟩
          have HLE2 := Lib.hid (HLE1.out.trans hle2)
          clear hle2
          rcases hv with rfl | ⟨g, a, b, c, d, rfl, hg⟩
          · go_wp2
            go_ret
            exact ⟨rfl, HLE2.out⟩
          · have HT := Lib.hid (to4_c w2 g a b c d hg)
            have heq := ip_nil g
            clear hg
            go_wp2_with fail
            refine HT.out.mono ?_
            rintro e w3 ⟨rfl, hle3⟩
            have HLE3 := Lib.hid (HLE2.out.trans hle3)
            clear hle3
            go_wp2
            go_ret
            exact ⟨rfl, HLE3.out⟩
        · have e58 : ((p : Int) == 58) = false := beq_eq_false_iff_ne.2 (by omega)
          clear h58
          go_wp2
          go_roundg (gk - d)
          case measure => omega
          case rel => exact ⟨p + d, by omega, HLE1.out, HIT1.out⟩
    · have hnx := fun ty => Lib.run_next_end_at (P := Tryz.prog) wr _ s p ty hit hlt
      clear hit
      go_wp2_with fail
      refine (netParseIP_c s _ HNO.out hs (HL.out.le HLE.out)).mono ?_
      rintro e w2 ⟨v, rfl, hv, hle2⟩
      have HLE2 := Lib.hid (HLE.out.trans hle2)
      clear hle2
      rcases hv with rfl | ⟨g, a, b, c, d, rfl, hg⟩
      · go_wp2
        go_ret
        exact ⟨rfl, HLE2.out⟩
      · have HT := Lib.hid (to4_c w2 g a b c d hg)
        have heq := ip_nil g
        clear hg
        go_wp2_with fail
        refine HT.out.mono ?_
        rintro e w3 ⟨rfl, hle3⟩
        have HLE3 := Lib.hid (HLE2.out.trans hle3)
        clear hle3
        go_wp2
        go_ret
        exact ⟨rfl, HLE3.out⟩

theorem uriIP_c (s : ByteArray) (w : World) (hn : ∀ k (h : k < s.size), s[k]'h ≠ 58) (hs : s.size ≤ 1099511627776) (hL : Laid w) :
    Calls Tryz.prog 133 #[.string s] w fun e w' => e = .returned (.string s) ∧ Le w w' := by
  go_enter Tryz.func133, Tryz.ntmps133
  go_wp2_with fail
  refine (isIPV6_c s _ hn hs hL).mono ?_
  rintro e w2 ⟨rfl, hle2⟩
  go_wp2
  go_ret
  exact ⟨rfl, hle2⟩
end Go.Proofs.YtbdeohmdpkkpdaaGreatDoor
