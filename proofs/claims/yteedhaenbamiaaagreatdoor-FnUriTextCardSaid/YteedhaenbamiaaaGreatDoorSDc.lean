/- Contracts: the specification's decimal, HostText. -/
import Derived.Test.YteedhaenbamiaaaGreatDoorDec
import Derived.Test.YteedhaenbamiaaaGreatDoorApg
set_option linter.unusedVariables false
set_option linter.unusedSimpArgs false
namespace Go.Proofs.YteedhaenbamiaaaGreatDoor
open Go.RowKit

theorem dec_small {n : Nat} (h : n < 10) : Lib.decDigits n = [UInt8.ofNat (48 + n)] := by
  rw [Lib.decDigits.eq_def]
  simp [h]
theorem dec_big {n : Nat} (h : ¬ n < 10) : Lib.decDigits n = Lib.decDigits (n / 10) ++ [UInt8.ofNat (48 + n % 10)] := by
  rw [Lib.decDigits.eq_def n]
  simp [h]
theorem dec_byte (k : Nat) (h : k < 10) : ∃ c : UInt8, UInt8.ofNat (48 + k) = c ∧ (48 : Int) + (k : Int) = (c.toNat : Int) :=
  ⟨_, rfl, by rw [UInt8.toNat_ofNat_of_lt' (by show 48 + k < 256; omega)]; omega⟩
set_option maxRecDepth 4000 in
set_option maxHeartbeats 2000000 in
theorem sDec_c (n : Nat) : ∀ (w : World), n ≤ 9223372036854775807 →
    Calls Tryz.prog 56 #[.int .i64 n] w fun e w' => ∃ v', e = .returned v' ∧ OwnB w.heap.size w' v' (Lib.decDigits n) ∧ (Lib.decDigits n).length ≤ 21 ∧ Le w w' := by
  induction n using Nat.strongRecOn with
  | _ n ih =>
    intro w hn
    have HLN : Hid ((Lib.decDigits n).length ≤ 21) := Lib.hid (by
      have h := Lib.itoa_length_le (n : Int) (by omega) (by omega)
      rw [Lib.itoa_nonneg] at h
      exact h)
    by_cases hs : n < 10
    · have HD := Lib.hid (dec_small hs)
      obtain ⟨c, hc, hz⟩ := dec_byte n hs
      rw [hc] at HD
      have hlt : decide ((n : Int) < 10) = true := decide_eq_true (by omega)
      have HO := Lib.hid (ownb_one w _ c hz)
      have HZ := Lib.hid hz
      have hn0 : (0 : Int) ≤ (n : Int) := by omega
      clear hc hz ih
      go_enter Tryz.func56, Tryz.ntmps56
      go_wp2
      go_ret
      exact ⟨_, rfl, by rw [HD.out]; exact HO.out, HLN.out, (Le.refl w).alloc _⟩
    · have HD := Lib.hid (dec_big hs)
      obtain ⟨c, hc, hz⟩ := dec_byte (n % 10) (by omega)
      rw [hc] at HD
      have hz : (48 : Int) + (n : Int) % 10 = (c.toNat : Int) := by rw [← hz]; omega
      have hlt : decide ((n : Int) < 10) = false := decide_eq_false (by omega)
      have hdiv : IntKind.i64.wrap ((n : Int).tdiv 10) = ((n / 10 : Nat) : Int) := by
        rw [IntWalk.i64_quo _ _ (by omega)]; omega
      have HI := Lib.hid (ih (n / 10) (by omega))
      have HZ := Lib.hid hz
      clear hc hz ih
      go_enter Tryz.func56, Tryz.ntmps56
      go_wp2_with fail
      refine (HI.out w (by omega)).mono ?_
      rintro e w1 ⟨v1, rfl, hown1, hl1, hle1⟩
      have HO1 := Lib.hid (hown1.le ((Le.refl w1).alloc (Obj.cells #[.int .u8 ((48 : Int) + (n : Int) % 10)] 5)))
      have HB1 : Hid (Bv (w1.alloc (Obj.cells #[.int .u8 ((48 : Int) + (n : Int) % 10)] 5)) (.slice (some ⟨w1.heap.size, 0, none⟩) 1 1) [c]) := Lib.hid (by rw [HZ.out]; exact bv_lit w1 [c] (by simp) (0, 0))
      have HL1 := Lib.hid hle1
      have HLL := Lib.hid hl1
      obtain ⟨n1, A1, c1, rfl⟩ := hown1.shape
      clear hown1 hle1 hl1
      go_wp2_with (at_builtin; refine wpList_append_bv rfl (.tmp 11) (.tmp 16) rfl (base := w.heap.size) rfl rfl HO1.out HB1.out (by have := HLL.out; simp only [List.length_cons, List.length_nil]; omega) (HL1.out.alloc _).size ?_)
      intro v2 w2 hown2 hgrow2
      have HO2 : Hid (OwnB w.heap.size w2 v2 (Lib.decDigits n)) := Lib.hid (by rw [HD.out]; exact hown2)
      have HL2 : Hid (Le w w2) := Lib.hid (Below.grown' (HL1.out.alloc _) hgrow2 (Nat.le_refl _) (fun g hg => (own_row' HO1.out g hg).1))
      clear hown2 hgrow2
      go_wp2
      go_ret
      exact ⟨_, rfl, HO2.out, HLN.out, HL2.out⟩
/-- a host, its port behind a colon if there is one -/
def hostS (host : Tx) (p : Int) : Tx := host ++ (if 0 < p then 58 :: Lib.itoa p else [])
set_option maxRecDepth 4000 in
set_option maxHeartbeats 2000000 in
theorem sHost_c (w : World) (v : Value) (host : Tx) (p : Int) (hv : Bv w v host) (hl : host.length ≤ 2147483647) (hp : p ≤ 9223372036854775807) :
    Calls Tryz.prog 55 #[v, .int .i64 p] w fun e w' => ∃ v', e = .returned v' ∧ OwnB w.heap.size w' v' (hostS host p) ∧ Le w w' := by
  have HV := Lib.hid hv
  obtain ⟨A, c, rfl⟩ := hv.form
  have HN := Lib.hid (OwnB.nil w.heap.size w)
  have HHL := Lib.hid hl
  clear hv hl
  by_cases h0 : 0 < p
  · obtain ⟨n, rfl⟩ : ∃ n : Nat, p = n := ⟨p.toNat, by omega⟩
    have hd : decide (0 < (n : Int)) = true := decide_eq_true h0
    have hd2 : 0 < n := by omega
    have HT : Hid (hostS host (n : Int) = host ++ 58 :: Lib.decDigits n) := Lib.hid (by unfold hostS; rw [if_pos h0, Lib.itoa_nonneg])
    have HP : Hid (n ≤ 9223372036854775807) := Lib.hid (by omega)
    clear h0 hp
    go_enter Tryz.func55, Tryz.ntmps55
    go_wp2_with (at_builtin; refine wpList_append_bv rfl (.const (.slice none 0 0)) (.tmp 6) rfl (base := w.heap.size) rfl rfl HN.out HV.out (by have := HHL.out; simp only [List.length_nil]; omega) (Nat.le_refl _) ?_)
    intro v1 w1 hown1 hgrow1
    have HL1 : Hid (Le w w1) := Lib.hid (Below.grown' (Le.refl w) hgrow1 (Nat.le_refl _) (fun g hg => by cases hg))
    have HB1 : Hid (Bv (w1.alloc (Obj.cells #[.int .u8 58] 5)) (.slice (some ⟨w1.heap.size, 0, none⟩) 1 1) [58]) := Lib.hid (bv_lit w1 [58] (by decide) (0, 0))
    have HO1 : Hid (OwnB w.heap.size (w1.alloc (Obj.cells #[.int .u8 58] 5)) v1 host) := Lib.hid (OwnB.le hown1 ((Le.refl w1).alloc _))
    obtain ⟨n1, A1, c1, rfl⟩ := hown1.shape
    clear hown1 hgrow1
    go_wp2_with (at_builtin; refine wpList_append_bv rfl (.tmp 10) (.tmp 11) rfl (base := w.heap.size) rfl rfl HO1.out HB1.out (by have := HHL.out; simp only [List.length_cons, List.length_nil]; omega) (HL1.out.alloc _).size ?_)
    intro v2 w2 hown2 hgrow2
    have HO2 := Lib.hid hown2
    have HL2 : Hid (Le w w2) := Lib.hid (Below.grown' (HL1.out.alloc _) hgrow2 (Nat.le_refl _) (fun g hg => (own_row' HO1.out g hg).1))
    obtain ⟨n2, A2, c2, rfl⟩ := hown2.shape
    clear hown2 hgrow2
    go_wp2_with fail
    refine (sDec_c n w2 HP.out).mono ?_
    rintro e w3 ⟨v3, rfl, hown3, hl3, hle3⟩
    have HB3 := Lib.hid (hown3.bv (by omega))
    have HO3 := Lib.hid (HO2.out.le hle3)
    have HL3 : Hid (Le w w3) := Lib.hid (HL2.out.trans hle3)
    have HLN := Lib.hid hl3
    obtain ⟨n3, A3, c3, rfl⟩ := hown3.shape
    clear hown3 hle3 hl3
    go_wp2_with (at_builtin; refine wpList_append_bv rfl (.tmp 12) (.tmp 14) rfl (base := w.heap.size) rfl rfl HO3.out HB3.out (by have := HHL.out; have := HLN.out; simp only [List.length_append, List.length_cons, List.length_nil]; omega) HL3.out.size ?_)
    intro v4 w4 hown4 hgrow4
    have HO4 : Hid (OwnB w.heap.size w4 v4 (hostS host (n : Int))) := Lib.hid (by rw [HT.out]; exact hown4)
    have HL4 : Hid (Le w w4) := Lib.hid (Below.grown' HL3.out hgrow4 (Nat.le_refl _) (fun g hg => (own_row' HO3.out g hg).1))
    clear hown4 hgrow4
    go_wp2
    go_ret
    exact ⟨_, rfl, HO4.out, HL4.out⟩
  · have hd : decide (0 < p) = false := decide_eq_false h0
    have HT : Hid (hostS host p = host) := Lib.hid (by unfold hostS; rw [if_neg h0, List.append_nil])
    clear h0
    go_enter Tryz.func55, Tryz.ntmps55
    go_wp2_with (at_builtin; refine wpList_append_bv rfl (.const (.slice none 0 0)) (.tmp 6) rfl (base := w.heap.size) rfl rfl HN.out HV.out (by have := HHL.out; simp only [List.length_nil]; omega) (Nat.le_refl _) ?_)
    intro v1 w1 hown1 hgrow1
    have HL1 : Hid (Le w w1) := Lib.hid (Below.grown' (Le.refl w) hgrow1 (Nat.le_refl _) (fun g hg => by cases hg))
    have HO1 : Hid (OwnB w.heap.size w1 v1 (hostS host p)) := Lib.hid (by rw [HT.out]; exact hown1)
    clear hown1 hgrow1
    go_wp2
    go_ret
    exact ⟨_, rfl, HO1.out, HL1.out⟩
end Go.Proofs.YteedhaenbamiaaaGreatDoor
