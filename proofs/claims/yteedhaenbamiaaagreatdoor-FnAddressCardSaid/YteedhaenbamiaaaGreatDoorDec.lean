/- Contracts: a number in digits; a host with its port. -/
import Derived.Test.YteedhaenbamiaaaGreatDoorPTx
import Derived.Test.YteedhaenbamiaaaGreatDoorLw
import Derived.Lib.ItoaLen
set_option linter.unusedVariables false
set_option linter.unusedSimpArgs false
namespace Go.Proofs.YteedhaenbamiaaaGreatDoor
open Go.RowKit

/-- what stands ahead of what is still to be written -/
def dgP (n : Nat) (first : Bool) (tx : Tx) : Tx := if first = true ∨ 0 < n then Lib.decDigits n ++ tx else tx
theorem dgP_next {n : Nat} {first : Bool} {tx : Tx} (h : first = true ∨ 0 < n) : dgP (n / 10) false (UInt8.ofNat (48 + n % 10) :: tx) = dgP n first tx := by
  unfold dgP
  rw [if_pos h]
  by_cases h1 : n < 10
  · rw [if_neg (by simp; omega), Lib.decDigits]
    simp [h1, Nat.mod_eq_of_lt h1]
  · rw [if_pos (.inr (by omega)), Lib.decDigits.eq_def n]
    simp [h1]
theorem ownb_one (w : World) (z : Int) (c : UInt8) (hz : z = (c.toNat : Int)) : OwnB w.heap.size (w.alloc (Obj.cells #[.int .u8 z] 5)) (.slice (some ⟨w.heap.size, 0, none⟩) 1 1) [c] := by
  subst hz
  exact ⟨rfl, .inr ⟨w.heap.size, 1, _, rfl, Nat.le_refl _, heap_alloc_new w _, Nat.le_refl _, by unfold maxLen; omega, rfl, rfl⟩⟩
theorem pow_step {m g : Nat} (h : m < 10 ^ g) (hg : 1 ≤ g) : m / 10 < 10 ^ (g - 1) := by
  have e : 10 ^ g = 10 ^ (g - 1) * 10 := by rw [← Nat.pow_succ]; congr 1; omega
  rw [e] at h
  exact Nat.div_lt_of_lt_mul (by omega)
set_option maxRecDepth 4000 in
set_option maxHeartbeats 2000000 in
theorem decimal_c (w : World) (n : Nat) (hn : n ≤ 65535) :
    Calls Tryz.prog 24 #[.int .i64 n] w fun e w' => ∃ v', e = .returned v' ∧ Bv w' v' (Lib.itoa n) ∧ Le w w' := by
  have HI : Hid (Lib.itoa n = dgP n true []) := Lib.hid (by rw [Lib.itoa_nonneg]; unfold dgP; simp)
  go_enter Tryz.func24, Tryz.ntmps24
  go_wp2
  go_loopg [0, 3, 4] 6 (fun g nv sv fv wr => ∃ (m : Nat) (f : Bool) (tx : Tx), nv = .int .i64 m ∧ fv = .bool f ∧ m ≤ 65535 ∧ tx.length + g ≤ 6 ∧ (f = true → 1 ≤ g) ∧ m < 10 ^ g ∧ Bv wr sv tx ∧ Le w wr ∧ Hid (dgP m f tx = dgP n true []))
  case atStart => exact ⟨n, true, [], rfl, rfl, hn, by simp, by simp, by omega, Bv.nil w, Le.refl w, Lib.hid rfl⟩
  case round =>
    obtain ⟨m, f, tx, rfl, rfl, hm, hl, hf1, hg, hb, hle, HD⟩ := hrel
    have HB := Lib.hid hb
    have HLE := Lib.hid hle
    obtain ⟨A3, c3, rfl⟩ := hb.form
    clear hb hle
    by_cases hf : f = true ∨ 0 < m
    · have hg1 : 1 ≤ gk := by
        rcases hf with h | h
        · exact hf1 h
        · rcases Nat.eq_zero_or_pos gk with e | e
          · rw [e] at hg; simp at hg; omega
          · exact e
      have HG : Hid (m / 10 < 10 ^ (gk - 1)) := Lib.hid (pow_step hg hg1)
      obtain ⟨ch, hz, hnx⟩ : ∃ c : UInt8, (48 : Int) + (m : Int) % 10 = (c.toNat : Int) ∧ dgP (m / 10) false (c :: tx) = dgP m f tx := ⟨UInt8.ofNat (48 + m % 10), by
        rw [UInt8.toNat_ofNat_of_lt' (by show 48 + m % 10 < 256; omega)]; omega, dgP_next hf⟩
      have HN := Lib.hid hnx
      have HO := Lib.hid (ownb_one wr _ _ hz)
      have HB1 := Lib.hid (HB.out.le ((Le.refl wr).alloc (Obj.cells #[.int .u8 ((48 : Int) + (m : Int) % 10)] 5)))
      have HL1 := Lib.hid (HLE.out.alloc (Obj.cells #[.int .u8 ((48 : Int) + (m : Int) % 10)] 5))
      have hsz := HLE.out.size
      have hmm : m = 0 ∨ 0 < m := by omega
      have hdiv : IntKind.i64.wrap ((m : Int).tdiv 10) = ((m / 10 : Nat) : Int) := by
        rw [IntWalk.i64_quo _ _ (by omega)]; omega
      clear hz hf1 hg hnx
      cases f
      case true =>
        go_wp2_with (at_builtin; refine wpList_append_bv rfl (.tmp 14) (.tmp 15) rfl (base := wr.heap.size) rfl rfl HO.out HB1.out (by simp only [List.length_cons, List.length_nil]; omega) (by simp) ?_)
        intro v4 w4 hown4 hgrow4
        have HV : Hid (Bv w4 v4 (ch :: tx)) := Lib.hid (hown4.bv (by simp; omega))
        have HL4 : Hid (Le w w4) := Lib.hid (Below.grown' HL1.out hgrow4 (Nat.le_refl _) (fun g hg => by have := (own_row' HO.out g hg).1; omega))
        clear hown4 hgrow4
        go_wp2
        go_roundg (gk - 1)
        case measure => omega
        case rel => exact ⟨m / 10, false, _, by go_num, rfl, by omega, by simp; omega, by simp, HG.out, HV.out, HL4.out, Lib.hid (HN.out.trans HD.out)⟩
      case false =>
        have hm1 : 0 < m := by rcases hf with h | h; · cases h
                               · exact h
        have hmd : decide (0 < (m : Int)) = true := decide_eq_true (by omega)
        clear hf
        go_wp2_with (at_builtin; refine wpList_append_bv rfl (.tmp 14) (.tmp 15) rfl (base := wr.heap.size) rfl rfl HO.out HB1.out (by simp only [List.length_cons, List.length_nil]; omega) (by simp) ?_)
        intro v4 w4 hown4 hgrow4
        have HV : Hid (Bv w4 v4 (ch :: tx)) := Lib.hid (hown4.bv (by simp; omega))
        have HL4 : Hid (Le w w4) := Lib.hid (Below.grown' HL1.out hgrow4 (Nat.le_refl _) (fun g hg => by have := (own_row' HO.out g hg).1; omega))
        clear hown4 hgrow4
        go_wp2
        go_roundg (gk - 1)
        case measure => omega
        case rel => exact ⟨m / 10, false, _, by go_num, rfl, by omega, by simp; omega, by simp, HG.out, HV.out, HL4.out, Lib.hid (HN.out.trans HD.out)⟩
    · obtain ⟨rfl, rfl⟩ : f = false ∧ m = 0 := ⟨by cases f; rfl; exact absurd (.inl rfl) hf, by omega⟩
      have HE : Hid (Lib.itoa n = tx) := Lib.hid (by rw [HI.out, ← HD.out]; unfold dgP; simp)
      clear hf hf1 hg
      go_wp2
      go_ret
      exact ⟨_, rfl, by rw [HE.out]; exact HB.out, HLE.out⟩
theorem sl_three (W : World) (x y z : Value) (a b c : Tx) (hx : Bv W x a) (hy : Bv W y b) (hz : Bv W z c) : Sl (W.alloc (Obj.cells #[x, y, z] 22)) (W.alloc (Obj.cells #[x, y, z] 22)) (.slice (some ⟨W.heap.size, 0, none⟩) 3 3) [a, b, c] := by
  refine ⟨_, 3, rfl, by simp, by simp, by simp, fun _ => ⟨W.heap.size, 0, rfl, fun j hj => ?_⟩⟩
  have hle : Le W (W.alloc (Obj.cells #[x, y, z] 22)) := (Le.refl W).alloc _
  rw [Nat.zero_add, cell_cells (heap_alloc_new W _) j]
  match j, hj with
  | 0, _ => exact ⟨_, rfl, hx.le hle⟩
  | 1, _ => exact ⟨_, rfl, hy.le hle⟩
  | 2, _ => exact ⟨_, rfl, hz.le hle⟩
def hostT (host : Tx) (p : Nat) : Tx := if p = 0 then host else host ++ 58 :: Lib.itoa p
theorem itoa_len (p : Nat) (h : p ≤ 65535) : (Lib.itoa (p : Int)).length ≤ 21 := Lib.itoa_length_le _ (by omega) (by omega)
set_option maxRecDepth 4000 in
set_option maxHeartbeats 2000000 in
theorem hostText_c (w : World) (v : Value) (host : Tx) (n : Nat) (hv : Bv w v host) (hl : host.length ≤ 2147483647) (hn : n ≤ 65535) :
    Calls Tryz.prog 21 #[v, .int .i64 n] w fun e w' => ∃ v', e = .returned v' ∧ Bv w' v' (hostT host n) ∧ Le w w' := by
  have HV := Lib.hid hv
  obtain ⟨A, c, rfl⟩ := hv.form
  clear hv
  by_cases h0 : n = 0
  · subst h0
    go_enter Tryz.func21, Tryz.ntmps21
    go_wp2
    go_ret
    exact ⟨_, rfl, HV.out, Le.refl w⟩
  · have h0' : ((n : Int) == 0) = false := by rw [beq_eq_false_iff_ne]; omega
    have HT : Hid (hostT host n = [host, [58], Lib.itoa n].flatten) := Lib.hid (by unfold hostT; rw [if_neg h0]; simp)
    have HI := Lib.hid (itoa_len n hn)
    clear h0
    go_enter Tryz.func21, Tryz.ntmps21
    go_wp2_with fail
    refine (decimal_c _ n hn).mono ?_
    rintro e w1 ⟨v1, rfl, hb1, hle1⟩
    have hb0 : Bv (w.alloc (Obj.cells #[.int .u8 58] 5)) (.slice (some ⟨w.heap.size, 0, none⟩) 1 1) [58] := bv_lit w [58] (by decide) (0, 0)
    have HS := Lib.hid (sl_three w1 _ _ _ _ _ _ (HV.out.le (Le.trans ((Le.refl w).alloc _) hle1)) (hb0.le hle1) hb1)
    have HL1 : Hid (Le w w1) := Lib.hid (Le.trans ((Le.refl w).alloc _) hle1)
    obtain ⟨A1, c1, rfl⟩ := hb1.form
    clear hb0 hb1 hle1
    generalize (Lib.itoa (n : Int)).length = ni at HS ⊢
    go_wp2_with fail
    refine (joined_c _ _ _ HS.out (by have := HI.out; simp only [List.flatten_cons, List.flatten_nil, List.length_append, List.length_cons, List.length_nil]; omega)).mono ?_
    rintro e w2 ⟨v2, rfl, hown, hle2⟩
    have HB : Hid (Bv w2 v2 (hostT host n)) := Lib.hid (by rw [HT.out]; exact hown.bv (by have := HI.out; simp only [List.flatten_cons, List.flatten_nil, List.length_append, List.length_cons, List.length_nil]; omega))
    have HL2 : Hid (Le w w2) := Lib.hid ((HL1.out.alloc _).trans hle2)
    obtain ⟨A2, c2, rfl⟩ := HB.out.form
    clear hown hle2
    go_wp2
    go_ret
    exact ⟨_, rfl, HB.out, HL2.out⟩
end Go.Proofs.YteedhaenbamiaaaGreatDoor
