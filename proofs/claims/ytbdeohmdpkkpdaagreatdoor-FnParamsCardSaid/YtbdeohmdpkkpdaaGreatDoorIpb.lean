/- Contracts: a host that holds no colon is no address of the sixth version (printed in part by a program). -/
import Derived.Test.YtbdeohmdpkkpdaaGreatDoorIpa
set_option linter.unusedVariables false
set_option linter.unusedSimpArgs false
namespace Go.Proofs.YtbdeohmdpkkpdaaGreatDoor
open Go.RowKit

/-! ### the number of an address of four numbers -/
def v4X (a b c d : Int) : Int := bits .or .u64 (bits .or .u64 (bits .or .u64 (bits .or .u64 281470681743360 (a * 16777216)) (b * 65536)) (c * 256)) d
def V4N (X : Int) : Prop := ∃ N : Nat, X = N ∧ N < 281474976710656 ∧ N / 4294967296 = 65535
theorem or_shift (x y : Nat) : (x ||| y) / 4294967296 = x / 4294967296 ||| y / 4294967296 := by
  have h : ∀ z : Nat, z / 4294967296 = z >>> 32 := fun z => by rw [Nat.shiftRight_eq_div_pow]
  rw [h, h, h, Nat.shiftRight_or_distrib]
theorem v4X_ok {a b c d : Int} (ha : 0 ≤ a ∧ a ≤ 255) (hb : 0 ≤ b ∧ b ≤ 255) (hc : 0 ≤ c ∧ c ≤ 255) (hd : 0 ≤ d ∧ d ≤ 255) : V4N (v4X a b c d) := by
  obtain ⟨A, rfl⟩ := Int.eq_ofNat_of_zero_le ha.1
  obtain ⟨B, rfl⟩ := Int.eq_ofNat_of_zero_le hb.1
  obtain ⟨C, rfl⟩ := Int.eq_ofNat_of_zero_le hc.1
  obtain ⟨D, rfl⟩ := Int.eq_ofNat_of_zero_le hd.1
  have hA : A ≤ 255 := by omega
  have hB : B ≤ 255 := by omega
  have hC : C ≤ 255 := by omega
  have hD : D ≤ 255 := by omega
  have k : ∀ x y : Nat, x < 281474976710656 → y < 281474976710656 → x ||| y < 281474976710656 := fun x y hx hy => Nat.or_lt_two_pow (n := 48) hx hy
  have k1 := k 281470681743360 (A * 16777216) (by omega) (by omega)
  have k2 := k _ (B * 65536) k1 (by omega)
  have k3 := k _ (C * 256) k2 (by omega)
  have k4 := k _ D k3 (by omega)
  refine ⟨((281470681743360 ||| A * 16777216) ||| B * 65536) ||| C * 256 ||| D, ?_, k4, ?_⟩
  · unfold v4X
    rw [show ((A : Int) * 16777216) = ((A * 16777216 : Nat) : Int) by omega, show ((B : Int) * 65536) = ((B * 65536 : Nat) : Int) by omega, show ((C : Int) * 256) = ((C * 256 : Nat) : Int) by omega,
      show (281470681743360 : Int) = ((281470681743360 : Nat) : Int) from rfl, u64_or_nat _ _ (by omega) (by omega), u64_or_nat _ _ (by omega) (by omega), u64_or_nat _ _ (by omega) (by omega), u64_or_nat _ _ (by omega) (by omega)]
  · rw [or_shift, or_shift, or_shift, or_shift, show A * 16777216 / 4294967296 = 0 by omega, show B * 65536 / 4294967296 = 0 by omega, show C * 256 / 4294967296 = 0 by omega, show D / 4294967296 = 0 by omega]
    rfl

/-! ### addresses -/
theorem addr_size : ((Tryz.prog).info? 254).map (·.size) = some 3 := by kernel_rfl
theorem det_size : ((Tryz.prog).info? 267).map (·.size) = some 2 := by kernel_rfl
theorem f4_size : ((Tryz.prog).info? 276).map (·.size) = some 4 := by kernel_rfl
theorem ip_size : ((Tryz.prog).info? 238).map (·.size) = some 16 := by kernel_rfl
def zadr : Array Value := #[.int .u64 0, .int .u64 0, .pointer none]
theorem zadr_one : zadr.all (·.oneCell') = true := by unfold zadr; simp only [List.all_toArray, List.all_cons, List.all_nil]; rfl
theorem zadr_built : (Tryz.prog).built 254 [] = some zadr := by kernel_rfl
/-- what reading an address gives: nothing and an error, or an address of four numbers -/
def AddrR (R : Array Value) (ev : Value) (w : World) : Prop :=
  (R = zadr ∧ ∃ T y, ev = .iface T y) ∨ (ev = .nilIface ∧ ∃ X b o, R = #[.int .u64 0, .int .u64 X, .pointer (some ⟨b, o, none⟩)] ∧ V4N X ∧ w.cell? ⟨8, 0, none⟩ = some (.pointer (some ⟨b, o, none⟩)))
theorem AddrR.le {R : Array Value} {ev : Value} {w w' : World} (h : AddrR R ev w) (k : Le w w') : AddrR R ev w' := by
  rcases h with h | ⟨h1, X, b, o, h2, h3, h4⟩
  · exact .inl h
  · exact .inr ⟨h1, X, b, o, h2, h3, k.cell h4⟩
theorem AddrR.size {R : Array Value} {ev : Value} {w : World} (h : AddrR R ev w) : R.size = 3 := by
  rcases h with ⟨rfl, _⟩ | ⟨_, X, b, o, rfl, _⟩ <;> rfl
theorem AddrR.one {R : Array Value} {ev : Value} {w : World} (h : AddrR R ev w) : R.all (·.oneCell') = true := by
  rcases h with ⟨rfl, _⟩ | ⟨_, X, b, o, rfl, _⟩
  · exact zadr_one
  · simp only [List.all_toArray, List.all_cons, List.all_nil]; rfl
theorem f4_cells {w : World} {b : Nat} (h : F4 w b) : ∃ x0 x1 x2 x3 : Int, (0 ≤ x0 ∧ x0 ≤ 255) ∧ (0 ≤ x1 ∧ x1 ≤ 255) ∧ (0 ≤ x2 ∧ x2 ≤ 255) ∧ (0 ≤ x3 ∧ x3 ≤ 255) ∧ w.heap[b]? = some (.cells #[.int .u8 x0, .int .u8 x1, .int .u8 x2, .int .u8 x3] 276 (0, 0)) := by
  obtain ⟨fs, hl, hr, hb⟩ := h
  match fs, hl with
  | [x0, x1, x2, x3], _ => exact ⟨x0, x1, x2, x3, hr _ (by simp), hr _ (by simp), hr _ (by simp), hr _ (by simp), hb⟩
set_option maxRecDepth 8000 in
set_option maxHeartbeats 2000000 in
theorem from4_c (w : World) (a b c d : Int) (b4 o4 : Nat) (ha : 0 ≤ a ∧ a ≤ 255) (hb : 0 ≤ b ∧ b ≤ 255) (hc : 0 ≤ c ∧ c ≤ 255) (hd : 0 ≤ d ∧ d ≤ 255) (h8 : w.cell? ⟨8, 0, none⟩ = some (.pointer (some ⟨b4, o4, none⟩))) :
    Calls Tryz.prog 183 #[.agg #[.int .u8 a, .int .u8 b, .int .u8 c, .int .u8 d]] w fun e w' => e = .returned (.agg #[.int .u64 0, .int .u64 (v4X a b c d), .pointer (some ⟨b4, o4, none⟩)]) ∧ Le w w' := by
  obtain ⟨a1, a2⟩ := ha
  obtain ⟨b1, b2⟩ := hb
  obtain ⟨c1, c2⟩ := hc
  obtain ⟨d1, d2⟩ := hd
  have h8l := lt_of_cell h8
  go_enter Tryz.func183, Tryz.ntmps183
  go_wp2
  refine bodyPost_ret (results_cell_row rfl _ _ (w.heap.size + 1) 254 _ (0, 0) _ rfl (heap_alloc2_new w _ _) Tryz.underlying254 rfl addr_size) rfl ?_
  exact ⟨rfl, ((Le.refl w).alloc _).alloc _⟩
def V4R (w : World) (e : Ending) (w' : World) : Prop := ∃ R ev, e = .returned (.tuple #[.agg R, ev]) ∧ AddrR R ev w' ∧ Le w w'
theorem adr_results {F : Func} {W : World} {b : Nat} {R : Array Value} {a : Act} {ev : Value} (hF : F.results = #[.cell 2 254, .tmp 3]) (hb : W.heap[b]? = some (.cells R 254 (0, 0))) (hs : R.size = 3)
    (h2 : a.tmps.getD 2 undef = .pointer (some ⟨b, 0, none⟩)) (h3 : a.tmps.getD 3 undef = ev) : (results F a.tmps).run Tryz.prog W = .ok (.tuple #[.agg R, ev]) W := by
  rw [results_cell_tmp hF, h2, h3]
  simp only [asAddr, Sem.run_pure, Result.andThen_ok, run_loadVar_row W _ _ _ _ _ _ hb Tryz.underlying254 rfl (by rw [hs]; exact addr_size)]
set_option maxRecDepth 8000 in
set_option maxHeartbeats 4000000 in
theorem v4_c (s : ByteArray) (w : World) (hs : s.size ≤ 1099511627776) (hL : Laid w) :
    Calls Tryz.prog 171 #[.string s] w (V4R w) := by
  have HL := Lib.hid hL
  clear hL
  go_enter Tryz.func171, Tryz.ntmps171
  go_wp2_with fail
  have hbl : ∀ o, ((w.alloc (Obj.cells zadr 254)).alloc o).heap[w.heap.size]? = some (Obj.cells zadr 254) := fun o => heap_alloc2_old w _ o
  have hf0 : F4 ((w.alloc (Obj.cells zadr 254)).alloc (Obj.cells #[.int .u8 0, .int .u8 0, .int .u8 0, .int .u8 0] 276)) (w.heap.size + 1) := ⟨[0, 0, 0, 0], rfl, by simp, heap_alloc2_new w _ _⟩
  have hw2 : Le w ((w.alloc (Obj.cells zadr 254)).alloc (Obj.cells #[.int .u8 0, .int .u8 0, .int .u8 0, .int .u8 0] 276)) := ((Le.refl w).alloc _).alloc _
  refine (v4f_c s _ (w.heap.size + 1) hf0 hs).mono ?_
  rintro e w1 ⟨hk1, hf1, hor⟩
  have HB1 : Hid (w1.heap[w.heap.size]? = some (Obj.cells zadr 254)) := Lib.hid (hk1.heap (by omega) (hbl _))
  have HLE1 : Hid (Le w w1) := Lib.hid (Below.trans hw2 (hk1.below (by omega) hw2.size))
  have HF1 := Lib.hid hf1
  clear hbl hf0 hw2 hk1 hf1
  rcases hor with rfl | ⟨T, x, rfl⟩
  · obtain ⟨x0, x1, x2, x3, g0, g1, g2, g3, hb4⟩ := f4_cells HF1.out
    obtain ⟨bz, oz, hz, _, _⟩ := (HL.out.le HLE1.out).z4
    have HB4 := Lib.hid hb4
    have HC := Lib.hid (from4_c w1 x0 x1 x2 x3 bz oz g0 g1 g2 g3 hz)
    have HZ := Lib.hid hz
    have HX := Lib.hid (v4X_ok g0 g1 g2 g3)
    clear hb4 g0 g1 g2 g3 hz
    go_wp2_with (refine wpList_load_row rfl 276 (.tmp 4) rfl (w.heap.size + 1) rfl 276 #[.int .u8 x0, .int .u8 x1, .int .u8 x2, .int .u8 x3] (0, 0) _ HB4.out Tryz.underlying276 rfl f4_size ?_)
    refine HC.out.mono ?_
    rintro e w3 ⟨rfl, hle3⟩
    have HLE3 : Hid (Le w w3) := Lib.hid (Le.trans HLE1.out hle3)
    have HB3 := Lib.hid (hle3.heap HB1.out)
    have HZ3 := Lib.hid (hle3.cell HZ.out)
    clear hle3
    go_wp2_with (refine wpList_store_rowR rfl 254 (.tmp 2) (.tmp 15) rfl w.heap.size #[.int .u64 0, .int .u64 (v4X x0 x1 x2 x3), .pointer (some ⟨bz, oz, none⟩)] rfl rfl 254 zadr HB3.out addr_size rfl (by simp only [List.all_toArray, List.all_cons, List.all_nil]; rfl) ?_)
    intro w4 hz4 hk4
    have HLE4 : Hid (Le w w4) := Lib.hid (Below.trans HLE3.out (hk4.below (Nat.le_refl _) HLE3.out.size))
    have hgz : 8 < w.heap.size := by obtain ⟨_, _, h, _⟩ := HL.out.z4; exact lt_of_cell h
    have HZ4 : Hid (w4.cell? ⟨8, 0, none⟩ = some (.pointer (some ⟨bz, oz, none⟩))) := Lib.hid (by
      have hb := hk4.block 8 (by have := HLE3.out.size; omega) (by intro e; injection e with e; omega)
      exact (World.cell?_of_block (a := ⟨8, 0, none⟩) hb).trans HZ3.out)
    have HBB := Lib.hid hz4
    clear hz4 hk4 hgz
    go_wp2
    (try simp only [Exit.inBlock, Exit.then])
    refine bodyPost_ret (adr_results rfl HBB.out rfl rfl rfl) rfl ?_
    exact ⟨_, _, rfl, .inr ⟨rfl, _, bz, oz, rfl, HX.out, HZ4.out⟩, HLE4.out⟩
  · go_wp2_with (first | (refine wpList_build0' rfl 254 rfl (some 12) rfl zadr zadr_built ?_) | (refine wpList_store_rowR rfl 254 (.tmp 2) (.tmp 12) rfl w.heap.size zadr rfl rfl 254 zadr HB1.out addr_size rfl zadr_one ?_))
    intro w4 hz4 hk4
    have HLE4 : Hid (Le w w4) := Lib.hid (Below.trans HLE1.out (hk4.below (Nat.le_refl _) HLE1.out.size))
    have HBB := Lib.hid hz4
    clear hz4 hk4
    go_wp2
    (try simp only [Exit.inBlock, Exit.then])
    refine bodyPost_ret (adr_results rfl HBB.out rfl rfl rfl) rfl ?_
    exact ⟨_, _, rfl, .inl ⟨rfl, T, x, rfl⟩, HLE4.out⟩

/-! ### reading an address -/
set_option maxRecDepth 8000 in
set_option maxHeartbeats 4000000 in
theorem paddr_c (s : ByteArray) (w : World) (hn : ∀ k (h : k < s.size), s[k]'h ≠ 58) (hs : s.size ≤ 1099511627776) (hL : Laid w) :
    Calls Tryz.prog 161 #[.string s] w (V4R w) := by
  have HNO := Lib.hid hn
  have HL := Lib.hid hL
  clear hn hL
  go_enter Tryz.func161, Tryz.ntmps161
  go_wp2
  go_loopg [4] (s.size) (fun n i wr => ∃ k : Nat, n + k = s.size ∧ i = .int .i64 k ∧ Le w wr ∧ wr.heap[w.heap.size]? = some (Obj.cells zadr 254))
  case atStart => exact ⟨0, by omega, rfl, (Le.refl w).alloc _, heap_alloc_new w _⟩
  case round =>
    obtain ⟨k, hn, rfl, hle, hbk⟩ := hrel
    have HLE := Lib.hid hle
    have HBK := Lib.hid hbk
    have HN : gk + k ≤ s.size ∧ s.size ≤ gk + k := by omega
    clear hn hle hbk
    by_cases hlt : k < s.size
    · have hne := HNO.out k hlt
      have e58 : (((s[k]'hlt).toNat : Int) == 58) = false := by
        simp only [beq_eq_false_iff_ne, ne_eq]; intro h; exact hne (u8_of (n := 58) h (by decide))
      clear hne
      by_cases h46 : ((s[k]'hlt).toNat : Int) = 46
      · clear e58
        go_wp2_with fail
        refine (v4_c s wr hs (HL.out.le HLE.out)).mono ?_
        rintro e w2 ⟨R, ev, rfl, hR, hle2⟩
        have HB2 := Lib.hid (hle2.heap HBK.out)
        have HLE2 : Hid (Le w w2) := Lib.hid (Le.trans HLE.out hle2)
        have HR := Lib.hid hR
        have hs3 := Lib.hid hR.size
        clear hR hle2
        go_wp2_with (refine wpList_store_rowR rfl 254 (.tmp 2) (.tmp 18) rfl w.heap.size R rfl rfl 254 zadr HB2.out (by rw [hs3.out]; exact addr_size) (by rw [hs3.out]; rfl) HR.out.one ?_)
        intro w4 hz4 hk4
        have HLE4 : Hid (Le w w4) := Lib.hid (Below.trans HLE2.out (hk4.below (Nat.le_refl _) HLE2.out.size))
        have HR4 : Hid (AddrR R ev w4) := Lib.hid (by
          rcases HR.out with h | ⟨h1, X, b, o, h2, h3, h4⟩
          · exact .inl h
          · refine .inr ⟨h1, X, b, o, h2, h3, ?_⟩
            have hgz : 8 < w.heap.size := by obtain ⟨_, _, h, _⟩ := HL.out.z4; exact lt_of_cell h
            have hb := hk4.block 8 (by have := HLE2.out.size; omega) (by intro e; injection e with e; omega)
            exact (World.cell?_of_block (a := ⟨8, 0, none⟩) hb).trans h4)
        have HBB := Lib.hid hz4
        clear hz4 hk4
        go_wp2
        (try simp only [Exit.inBlock, Exit.then])
        refine bodyPost_ret (adr_results rfl HBB.out hs3.out rfl rfl) rfl ?_
        exact ⟨_, _, rfl, HR4.out, HLE4.out⟩
      · have e46 : (((s[k]'hlt).toNat : Int) == 46) = false := by simpa using h46
        clear h46
        by_cases h37 : ((s[k]'hlt).toNat : Int) = 37
        · clear e58 e46
          go_wp2_with (first | (refine wpList_build0' rfl 254 rfl (some 28) rfl zadr zadr_built ?_) | (refine wpList_store_rowR rfl 254 (.tmp 2) (.tmp 28) rfl w.heap.size zadr rfl rfl 254 zadr HBK.out addr_size rfl zadr_one ?_))
          intro w4 hz4 hk4
          have HLE4 : Hid (Le w w4) := Lib.hid (Below.trans HLE.out (hk4.below (Nat.le_refl _) HLE.out.size))
          have HBB := Lib.hid hz4
          clear hz4 hk4
          go_wp2
          (try simp only [Exit.inBlock, Exit.then])
          refine bodyPost_ret (adr_results rfl HBB.out rfl rfl rfl) rfl ?_
          exact ⟨_, _, rfl, .inl ⟨rfl, _, _, rfl⟩, HLE4.out⟩
        · have e37 : (((s[k]'hlt).toNat : Int) == 37) = false := by simpa using h37
          clear h37
          go_wp2
          go_roundg (gk - 1)
          case measure => omega
          case rel => exact ⟨k + 1, by omega, by go_num, HLE.out, HBK.out⟩
    · go_wp2_with (first | (refine wpList_build0' rfl 254 rfl (some 32) rfl zadr zadr_built ?_) | (refine wpList_store_rowR rfl 254 (.tmp 2) (.tmp 32) rfl w.heap.size zadr rfl rfl 254 zadr HBK.out addr_size rfl zadr_one ?_))
      intro w4 hz4 hk4
      have HLE4 : Hid (Le w w4) := Lib.hid (Below.trans HLE.out (hk4.below (Nat.le_refl _) HLE.out.size))
      have HBB := Lib.hid hz4
      clear hz4 hk4
      go_wp2
      (try simp only [Exit.inBlock, Exit.then])
      refine bodyPost_ret (adr_results rfl HBB.out rfl rfl rfl) rfl ?_
      exact ⟨_, _, rfl, .inl ⟨rfl, _, _, rfl⟩, HLE4.out⟩

/-! ### its zone -/
theorem equalIn_ptr_nil {P : Program} {w : World} (d : Nat) (t : TypeId) {e : TypeId} (h : P.underlying t = some (.pointer e)) (a : Addr) : (Op.equalIn (d + 1) t (.pointer (some a)) (.pointer none)).run P w = .ok false w := by
  simp [Op.equalIn, run_underlying h]
set_option maxRecDepth 8000 in
theorem value_c (w : World) (b4 o4 : Nat) (h1 : w.cell? ⟨b4, o4, none⟩ = some (.bool false)) (h2 : w.cell? ⟨b4, o4 + 1, none⟩ = some (.string (st []))) :
    Calls Tryz.prog 173 #[.agg #[.pointer (some ⟨b4, o4, none⟩)]] w fun e w' => e = .returned (.agg #[.bool false, .string (st [])]) ∧ Le w w' := by
  have h8l := lt_of_cell h1
  go_enter Tryz.func173, Tryz.ntmps173
  go_wp2
  refine bodyPost_ret (results_cell_row rfl _ _ (w.heap.size + 1) 267 _ (0, 0) _ rfl (heap_alloc2_new w _ _) Tryz.underlying267 rfl det_size) rfl ?_
  exact ⟨rfl, ((Le.refl w).alloc _).alloc _⟩
set_option maxRecDepth 8000 in
theorem zone_c (w : World) (X : Int) (b4 o4 : Nat) (h0 : w.cell? ⟨3, 0, none⟩ = some (.pointer none)) (h1 : w.cell? ⟨b4, o4, none⟩ = some (.bool false)) (h2 : w.cell? ⟨b4, o4 + 1, none⟩ = some (.string (st []))) :
    Calls Tryz.prog 162 #[.agg #[.int .u64 0, .int .u64 X, .pointer (some ⟨b4, o4, none⟩)]] w fun e w' => e = .returned (.string (st [])) ∧ Le w w' := by
  have h8l := lt_of_cell h1
  have h8m := lt_of_cell h0
  have heq : ∀ W, (Op.equalIn 9999 250 (.pointer (some ⟨b4, o4, none⟩)) (.pointer none)).run Tryz.prog W = .ok false W := fun W => equalIn_ptr_nil 9998 _ Tryz.underlying250 _
  have HL1 : Hid (Le w (w.alloc (Obj.cells #[.int .u64 0, .int .u64 X, .pointer (some ⟨b4, o4, none⟩)] 254))) := Lib.hid ((Le.refl w).alloc _)
  have HC := Lib.hid (value_c _ b4 o4 (HL1.out.cell h1) (HL1.out.cell h2))
  have hfd : ∀ W : World, (Instr.field 267 (.agg #[.bool false, .string (st [])]) 1).run Tryz.prog W = .ok (.string (st [])) W := fun _ => by kernel_rfl
  go_enter Tryz.func162, Tryz.ntmps162
  go_wp2_with fail
  refine HC.out.mono ?_
  rintro e w' ⟨rfl, hle⟩
  have HLE := Lib.hid (Le.trans HL1.out hle)
  clear hle
  go_wp2
  go_ret
  exact ⟨rfl, HLE.out⟩

/-! ### its sixteen bytes -/
def put8 (zs : List Int) (o : Nat) (x : Int) : List Int := ((((((((zs.set o (x / 72057594037927936)).set (o + 1) (x / 281474976710656)).set (o + 2) (x / 1099511627776)).set (o + 3) (x / 4294967296 % 256)).set (o + 4) (x / 16777216 % 256)).set (o + 5) (x / 65536 % 256)).set (o + 6) (x / 256 % 256)).set (o + 7) (x % 256))
set_option maxRecDepth 8000 in
set_option maxHeartbeats 2000000 in
theorem put64_c (w : World) (b o c : Nat) (zs : List Int) (x : Int) (h0 : 0 ≤ x) (h1 : x < 281474976710656) (hl : o + 8 ≤ zs.length) (hb : w.heap[b]? = some (.cells (u8L zs) 238 (0, 0))) :
    Calls Tryz.prog 174 #[.slice (some ⟨b, o, none⟩) 8 c, .int .u64 x] w fun e w' => e = .returned (.tuple #[]) ∧ Kp b w w' ∧ w'.heap[b]? = some (.cells (u8L (put8 zs o x)) 238 (0, 0)) := by
  have k0 : w.cell? ⟨b, o, none⟩ = some (.int .u8 (zs[o]'(by omega))) := (cell_cells hb _).trans (u8L_at _)
  have k1 : w.cell? ⟨b, o + 1, none⟩ = some (.int .u8 (zs[o + 1]'(by omega))) := (cell_cells hb _).trans (u8L_at _)
  have k2 : w.cell? ⟨b, o + 2, none⟩ = some (.int .u8 (zs[o + 2]'(by omega))) := (cell_cells hb _).trans (u8L_at _)
  have k3 : w.cell? ⟨b, o + 3, none⟩ = some (.int .u8 (zs[o + 3]'(by omega))) := (cell_cells hb _).trans (u8L_at _)
  have k4 : w.cell? ⟨b, o + 4, none⟩ = some (.int .u8 (zs[o + 4]'(by omega))) := (cell_cells hb _).trans (u8L_at _)
  have k5 : w.cell? ⟨b, o + 5, none⟩ = some (.int .u8 (zs[o + 5]'(by omega))) := (cell_cells hb _).trans (u8L_at _)
  have k6 : w.cell? ⟨b, o + 6, none⟩ = some (.int .u8 (zs[o + 6]'(by omega))) := (cell_cells hb _).trans (u8L_at _)
  have k7 : w.cell? ⟨b, o + 7, none⟩ = some (.int .u8 (zs[o + 7]'(by omega))) := (cell_cells hb _).trans (u8L_at _)
  have z0 := frozen_cells hb o
  have z1 := frozen_cells hb (o + 1)
  have z2 := frozen_cells hb (o + 2)
  have z3 := frozen_cells hb (o + 3)
  have z4 := frozen_cells hb (o + 4)
  have z5 := frozen_cells hb (o + 5)
  have z6 := frozen_cells hb (o + 6)
  have z7 := frozen_cells hb (o + 7)
  have HB := Lib.hid hb
  clear hb
  generalize zs[o]'(by omega) = y0 at k0
  generalize zs[o + 1]'(by omega) = y1 at k1
  generalize zs[o + 2]'(by omega) = y2 at k2
  generalize zs[o + 3]'(by omega) = y3 at k3
  generalize zs[o + 4]'(by omega) = y4 at k4
  generalize zs[o + 5]'(by omega) = y5 at k5
  generalize zs[o + 6]'(by omega) = y6 at k6
  generalize zs[o + 7]'(by omega) = y7 at k7
  clear hl
  have HE := Lib.hid (heap_set (heap_set (heap_set (heap_set (heap_set (heap_set (heap_set (heap_set HB.out o (.int .u8 (x / 72057594037927936))) (o + 1) (.int .u8 (x / 281474976710656))) (o + 2) (.int .u8 (x / 1099511627776))) (o + 3) (.int .u8 (x / 4294967296 % 256))) (o + 4) (.int .u8 (x / 16777216 % 256))) (o + 5) (.int .u8 (x / 65536 % 256))) (o + 6) (.int .u8 (x / 256 % 256))) (o + 7) (.int .u8 (x % 256)))
  have he : ∀ (q : Array Value), q = u8L (put8 zs o x) → True := fun _ _ => trivial
  go_enter Tryz.func174, Tryz.ntmps174
  go_wp2
  go_returns
  refine ⟨rfl, ((((((((Kp.refl b w).set o _).set (o + 1) _).set (o + 2) _).set (o + 3) _).set (o + 4) _).set (o + 5) _).set (o + 6) _).set (o + 7) _, ?_⟩
  have hh := HE.out
  simp only [u8L_set] at hh
  exact hh
end Go.Proofs.YtbdeohmdpkkpdaaGreatDoor
