/- Contracts: the specification's isHost, portOf, hostPort, isPrinted, allValued. -/
import Derived.Test.YtainljmnhocbgaaGreatDoorSpW2
import Derived.Test.YtainljmnhocbgaaGreatDoorKnown2
set_option linter.unusedVariables false
set_option linter.unusedSimpArgs false
namespace Go.Proofs.YtainljmnhocbgaaGreatDoor
open Go.RowKit

def anB (c : Int) : Bool := alB c || nmB c
theorem anB_byte (x : UInt8) : anB (x.toNat : Int) = isAn x := by unfold anB isAn; rw [← nmB_byte, ← alB_byte]
theorem isAlnumA (c : Int) (w : World) : Calls Tryz.prog 78 #[.int .u8 c] w fun e w' => e = .returned (.bool (anB c)) ∧ w = w' := isAlnumI c w
theorem byte_ne (x : UInt8) (n : Nat) (hn : n < 256) : ((x.toNat : Int) != (n : Int)) = !decide (x = UInt8.ofNat n) := by
  have e : (UInt8.ofNat n).toNat = n := by rw [UInt8.toNat_ofNat', Nat.mod_eq_of_lt hn]
  have h := byte_eq x (UInt8.ofNat n)
  rw [e] at h
  rw [bne, h]
theorem byte_eqn (x : UInt8) (n : Nat) (hn : n < 256) : ((x.toNat : Int) == (n : Int)) = decide (x = UInt8.ofNat n) := by
  have e : (UInt8.ofNat n).toNat = n := by rw [UInt8.toNat_ofNat', Nat.mod_eq_of_lt hn]
  have h := byte_eq x (UInt8.ofNat n)
  rw [e] at h
  exact h

/-! ### isHost -/
def hch (c : UInt8) : Bool := isAn c || c == 45 || c == 46
theorem isHostB_eq {l : Tx} (h : 0 < l.length) : isHostB l = (l.all hch && (isAn l[0] && isAn (l[l.length - 1]'(by omega)))) := by
  unfold isHostB
  cases l with
  | nil => simp at h
  | cons x r =>
    rw [List.head?_cons, List.getLast?_eq_getElem?, List.getElem?_eq_getElem (by omega)]
    rfl
set_option maxRecDepth 4000 in
set_option maxHeartbeats 2000000 in
theorem isHost_c (v : Value) (l : Tx) (w : World) (hv : Bv w v l) : Calls Tryz.prog 81 #[v] w fun e w' => e = .returned (.bool (isHostB l)) ∧ w = w' := by
  obtain ⟨A, cc, rfl, h1, h2, h4⟩ := hv
  have h3 := h4.1
  have HR := Lib.hid h4
  clear h4
  go_enter Tryz.func81, Tryz.ntmps81
  go_wp2
  go_loop [3] (fun i => ∃ k : Nat, k ≤ l.length ∧ i = .int .i64 k ∧ (l.take k).all hch = true) (fun i => l.length - (intOf i).toNat)
  case atStart => exact ⟨0, Nat.zero_le _, rfl, rfl⟩
  case round =>
    obtain ⟨k, hk, rfl, hq⟩ := hrel
    have HQ := Lib.hid hq
    clear hq
    by_cases hlt : k < l.length
    · obtain ⟨b, o, rfl, d1⟩ := HR.out.at_ hlt
      have a1 := anB_byte l[k]
      have a2 := byte_ne l[k] 45 (by omega)
      have a3 := byte_ne l[k] 46 (by omega)
      by_cases hc : hch l[k] = true
      · have HX : Hid ((l.take (k + 1)).all hch = true) := Lib.hid (by rw [List.take_succ_eq_append_getElem hlt, List.all_append, HQ.out]; simpa using hc)
        by_cases ha : isAn l[k] = true
        · rw [ha] at a1
          clear a2 a3 ha hc
          generalize (l[k].toNat : Int) = x at d1 a1
          go_wp2_with (go_at_call 78; refine (isAlnumA _ _).mono ?_; rintro e w' ⟨rfl, rfl⟩)
          go_round
          case rel => exact ⟨k + 1, by omega, by go_num, HX.out⟩
          case measure => simp [intOf]; omega
        · have ha' : isAn l[k] = false := by simpa using ha
          rw [ha'] at a1
          by_cases h45 : l[k] = 45
          · rw [decide_eq_true (show l[k] = UInt8.ofNat 45 from h45)] at a2
            clear a3 ha hc ha' h45
            generalize (l[k].toNat : Int) = x at d1 a1 a2
            have a2' : (x != 45) = false := a2
            clear a2
            go_wp2_with (go_at_call 78; refine (isAlnumA _ _).mono ?_; rintro e w' ⟨rfl, rfl⟩)
            go_round
            case rel => exact ⟨k + 1, by omega, by go_num, HX.out⟩
            case measure => simp [intOf]; omega
          · have h46 : l[k] = 46 := by
              unfold hch at hc
              rw [ha'] at hc
              simpa [h45] using hc
            rw [decide_eq_false (show ¬ l[k] = UInt8.ofNat 45 from h45)] at a2
            rw [decide_eq_true (show l[k] = UInt8.ofNat 46 from h46)] at a3
            clear ha hc ha' h45 h46
            generalize (l[k].toNat : Int) = x at d1 a1 a2 a3
            have a2' : (x != 45) = true := a2
            have a3' : (x != 46) = false := a3
            clear a2 a3
            go_wp2_with (go_at_call 78; refine (isAlnumA _ _).mono ?_; rintro e w' ⟨rfl, rfl⟩)
            go_round
            case rel => exact ⟨k + 1, by omega, by go_num, HX.out⟩
            case measure => simp [intOf]; omega
      · have hc' : hch l[k] = false := by simpa using hc
        have HX : Hid (isHostB l = false) := Lib.hid (by
          rw [isHostB_eq (by omega)]
          have : l.all hch = false := List.all_eq_false.2 ⟨l[k], List.getElem_mem hlt, hc⟩
          rw [this]; rfl)
        unfold hch at hc'
        simp only [Bool.or_eq_false_iff, beq_eq_false_iff_ne, ne_eq] at hc'
        rw [hc'.1.1] at a1
        rw [decide_eq_false (show ¬ l[k] = UInt8.ofNat 45 from hc'.1.2)] at a2
        rw [decide_eq_false (show ¬ l[k] = UInt8.ofNat 46 from hc'.2)] at a3
        clear hc hc'
        generalize (l[k].toNat : Int) = x at d1 a1 a2 a3
        have a2' : (x != 45) = true := a2
        have a3' : (x != 46) = true := a3
        clear a2 a3
        go_wp2_with (go_at_call 78; refine (isAlnumA _ _).mono ?_; rintro e w' ⟨rfl, rfl⟩)
        go_ret
        exact ⟨by rw [HX.out]; rfl, rfl⟩
    · have HA : Hid (l.all hch = true) := Lib.hid (by have := HQ.out; rw [List.take_of_length_le (by omega)] at this; exact this)
      by_cases h0 : 0 < l.length
      · obtain ⟨b, o, rfl, d1⟩ := HR.out.at_ h0
        obtain ⟨b', o', e', d2⟩ := HR.out.at_ (k := l.length - 1) (by omega)
        obtain ⟨rfl, rfl⟩ : b = b' ∧ o = o' := by injection e' with e'; injection e' with e1 e2; exact ⟨e1, e2⟩
        clear e'
        have a1 := anB_byte l[0]
        have a2 := anB_byte (l[l.length - 1]'(by omega))
        obtain ⟨r1, e1⟩ : ∃ r, isAn l[0] = r := ⟨_, rfl⟩
        obtain ⟨r2, e2⟩ : ∃ r, isAn (l[l.length - 1]'(by omega)) = r := ⟨_, rfl⟩
        have HE : Hid (isHostB l = (r1 && r2)) := Lib.hid (by rw [isHostB_eq h0, HA.out, e1, e2]; rfl)
        rw [Nat.add_zero] at d1
        rw [e1] at a1
        rw [e2] at a2
        clear e1 e2
        generalize (l[0].toNat : Int) = x at d1 a1
        generalize ((l[l.length - 1]'(by omega)).toNat : Int) = y at d2 a2
        have HN : Hid (((l.length : Int) - 1).toNat = l.length - 1) := Lib.hid (by omega)
        cases r1
        · go_wp2_with (go_at_call 78; refine (isAlnumA _ _).mono ?_; rintro e w' ⟨rfl, rfl⟩)
          go_ret
          exact ⟨by rw [HE.out]; rfl, rfl⟩
        · go_wp2_with (go_at_call 78; refine (isAlnumA _ _).mono ?_; rintro e w' ⟨rfl, rfl⟩)
          go_ret
          exact ⟨by rw [HE.out]; rfl, rfl⟩
      · obtain rfl : l = [] := List.eq_nil_of_length_eq_zero (by omega)
        go_wp2
        go_ret
        exact ⟨rfl, rfl⟩

/-! ### cuts -/
theorem add_adr (b o k : Nat) : (⟨b, o, none⟩ : Addr).add k = ⟨b, o + k, none⟩ := by cases k <;> simp [Addr.add]
theorem head_beq {l : Tx} (h : 0 < l.length) (n : UInt8) : (l.head? == some n) = decide (l[0] = n) := by
  cases l with
  | nil => simp at h
  | cons x r =>
    show (some x == some n) = decide (x = n)
    by_cases e : x = n
    · subst e; simp
    · rw [decide_eq_false e]; simpa using e
theorem bv_from {w : World} {A : Option Addr} {c : Nat} {l : Tx} (h : Bv w (.slice A l.length c) l) {k : Nat} (hk : k ≤ l.length) :
    Bv w (.slice (if c = k then A else A.map (·.add (k * 1))) (l.length - k) (c - k)) (l.drop k) := by
  obtain ⟨A', c', e, h1, h2, h3, h4⟩ := h
  injection e with e1 e2 e3
  subst e1
  subst e3
  refine ⟨_, _, by rw [List.length_drop], by rw [List.length_drop]; omega, by omega, by rw [List.length_drop]; omega, fun hn => ?_⟩
  rw [List.length_drop] at hn
  obtain ⟨b, o, rfl, hc⟩ := h4 (by omega)
  refine ⟨b, o + k, ?_, fun j hj => ?_⟩
  · rw [if_neg (by omega)]
    simp [add_adr]
  · rw [List.length_drop] at hj
    have e := hc (k + j) (by omega)
    rw [List.getElem_drop, ← e]
    congr 2
    omega
/-- 's[k:]' -/
theorem cut_from {w : World} {A : Option Addr} {n c : Nat} {l : Tx} (h : Bv w (.slice A n c) l) {k : Nat} (hk : k ≤ l.length) {z : Int} (hz : z = k) :
    ∃ v, Bv w v (l.drop k) ∧ (∀ W, (Instr.slice 22 (.slice A n c) (some (.int .i64 z)) none none).run Tryz.prog W = .ok v W) ∧
      (∀ W, (Instr.sliceAt 22 (.slice A n c) (some (.int .i64 z)) none none).run Tryz.prog W = .ok v W) := by
  obtain rfl : n = l.length := by obtain ⟨A', c', e, _⟩ := h; injection e
  subst hz
  have q : ∀ W, (Instr.slice 22 (.slice A l.length c) (some (.int .i64 (k : Int))) none none).run Tryz.prog W = .ok (.slice (if c = k then A else A.map (·.add (k * 1))) (l.length - k) (c - k)) W := fun W => by go_simp
  exact ⟨_, bv_from h hk, q, fun W => by go_simp⟩
/-- 's[:k:m]' -/
theorem cut_to {w : World} {A : Option Addr} {n c : Nat} {l : Tx} (h : Bv w (.slice A n c) l) {k : Nat} (hk : k ≤ l.length) {m : Nat} (hm : k ≤ m) (hm2 : m ≤ c) :
    Bv w (.slice A k m) (l.take k) := by
  obtain ⟨A', c', e, h1, h2, h3, h4⟩ := h
  injection e with e1 e2 e3
  subst e1
  subst e3
  have hl : (l.take k).length = k := by rw [List.length_take]; omega
  refine ⟨_, _, by rw [hl], by rw [hl]; exact hm, by omega, by omega, fun hn => ?_⟩
  rw [hl] at hn
  obtain ⟨b, o, rfl, hc⟩ := h4 (by omega)
  refine ⟨b, o, rfl, fun j hj => ?_⟩
  rw [hl] at hj
  rw [List.getElem_take]
  exact hc j (by omega)

/-! ### portOf -/
theorem decN_snoc (l : Tx) (x : UInt8) : decN (l ++ [x]) = 10 * decN l + (x.toNat - 48) := by unfold decN; rw [List.foldl_append]; rfl
theorem decN_mono (l r : Tx) : decN l ≤ decN (l ++ r) := by
  unfold decN
  rw [List.foldl_append]
  generalize List.foldl _ 0 l = n
  induction r generalizing n with
  | nil => exact Nat.le_refl _
  | cons x r ih => rw [List.foldl_cons]; exact Nat.le_trans (by omega) (ih _)
def PortPost (l : Tx) (w : World) (e : Ending) (w' : World) : Prop :=
  ∃ (n : Nat) (ok : Bool), e = .returned (.tuple #[.int .i64 n, .bool ok]) ∧ n ≤ 655359 ∧ portS l = (if ok then some n else none) ∧ w = w'
theorem nm_int {c : UInt8} : isNm c = true → 48 ≤ (c.toNat : Int) ∧ (c.toNat : Int) ≤ 57 := by
  intro h
  have e1 : (48 : UInt8).toNat = 48 := rfl
  have e2 : (57 : UInt8).toNat = 57 := rfl
  simp only [isNm, Bool.and_eq_true, decide_eq_true_eq, UInt8.le_iff_toNat_le] at h
  omega
set_option maxRecDepth 4000 in
set_option maxHeartbeats 2000000 in
theorem portOf_c (v : Value) (l : Tx) (w : World) (hv : Bv w v l) : Calls Tryz.prog 82 #[v] w (PortPost l w) := by
  obtain ⟨A, cc, rfl, h1, h2, h4⟩ := hv
  have h3 := h4.1
  have HR := Lib.hid h4
  clear h4
  go_enter Tryz.func82, Tryz.ntmps82
  go_wp2
  go_loop [4, 5] (fun n i => ∃ (k : Nat) (z : Int), k ≤ l.length ∧ i = .int .i64 k ∧ n = .int .i64 z ∧ 0 ≤ z ∧ z ≤ 655359 ∧ Hid (z = (decN (l.take k) : Int)) ∧ (l.take k).all isNm = true) (fun n i => l.length - (intOf i).toNat)
  case atStart => exact ⟨0, 0, Nat.zero_le _, rfl, rfl, by omega, by omega, Lib.hid rfl, rfl⟩
  case round =>
    obtain ⟨k, z, hk, rfl, rfl, hz0, hz1, HZ, hq⟩ := hrel
    have HQ := Lib.hid hq
    clear hq
    by_cases hlt : k < l.length
    · obtain ⟨b, o, rfl, d1⟩ := HR.out.at_ hlt
      have a1 := nmB_byte l[k]
      by_cases hn : isNm l[k] = true
      · have hr := nm_int hn
        by_cases hz : z ≤ 65535
        · have HZ2 : Hid (10 * z + ((l[k].toNat : Int) - 48) = (decN (l.take (k + 1)) : Int)) := Lib.hid (by
            rw [List.take_succ_eq_append_getElem hlt, decN_snoc]
            have := HZ.out
            omega)
          have HX : Hid ((l.take (k + 1)).all isNm = true) := Lib.hid (by rw [List.take_succ_eq_append_getElem hlt, List.all_append, HQ.out]; simpa using hn)
          rw [hn] at a1
          clear hn
          generalize (l[k].toNat : Int) = x at d1 a1 hr HZ2
          obtain ⟨hr1, hr2⟩ := hr
          go_wp2_with (go_at_call 94; refine (isNumberI _ _).mono ?_; rintro e w' ⟨rfl, rfl⟩)
          go_round
          case rel => exact ⟨k + 1, 10 * z + (x - 48), by omega, by go_num, rfl, by omega, by omega, HZ2, HX.out⟩
          case measure => simp [intOf]; omega
        · have HX : Hid (portS l = none) := Lib.hid (by
            unfold portS
            have h1 := decN_mono (l.take k) (l.drop k)
            rw [List.take_append_drop] at h1
            have := HZ.out
            rw [if_neg]
            simp only [Bool.and_eq_true, decide_eq_true_eq]
            omega)
          rw [hn] at a1
          clear hn
          generalize (l[k].toNat : Int) = x at d1 a1 hr
          go_wp2_with (go_at_call 94; refine (isNumberI _ _).mono ?_; rintro e w' ⟨rfl, rfl⟩)
          go_ret2
          exact ⟨0, false, rfl, by omega, HX.out, rfl⟩
      · have hn' : isNm l[k] = false := by simpa using hn
        have HX : Hid (portS l = none) := Lib.hid (by
          unfold portS
          rw [if_neg]
          simp only [Bool.and_eq_true]
          rintro ⟨⟨⟨h, _⟩, _⟩, _⟩
          exact hn (List.all_eq_true.1 h _ (List.getElem_mem hlt)))
        rw [hn'] at a1
        clear hn hn'
        generalize (l[k].toNat : Int) = x at d1 a1
        go_wp2_with (go_at_call 94; refine (isNumberI _ _).mono ?_; rintro e w' ⟨rfl, rfl⟩)
        go_ret2
        exact ⟨0, false, rfl, by omega, HX.out, rfl⟩
    · have hkl : l.take k = l := List.take_of_length_le (by omega)
      have HA : Hid (l.all isNm = true) := Lib.hid (by have := HQ.out; rw [hkl] at this; exact this)
      have HD : Hid (z = (decN l : Int)) := Lib.hid (by have := HZ.out; rw [hkl] at this; exact this)
      clear hkl HZ HQ
      by_cases h0 : 0 < l.length
      · obtain ⟨b, o, rfl, d1⟩ := HR.out.at_ h0
        have hne : l ≠ [] := List.length_pos_iff.1 h0
        have a1 := byte_ne l[0] 48 (by omega)
        have hhd : (l.head? == some 48) = decide (l[0] = 48) := head_beq h0 48
        have HP : Hid (portS l = if (!decide (l[0] = 48) && decide (z ≤ 65535)) = true then some z.toNat else none) := Lib.hid (by
          unfold portS
          have he : l.isEmpty = false := by simpa using hne
          have hz := HD.out
          rw [HA.out, he, hhd]
          have hdd : decide (decN l ≤ 65535) = decide (z ≤ 65535) := by rw [Bool.eq_iff_iff]; simp only [decide_eq_true_eq]; omega
          rw [hdd, show z.toNat = decN l from by omega]
          rfl)
        clear hhd hne
        rw [Nat.add_zero] at d1
        by_cases h48 : l[0] = 48
        · rw [decide_eq_true (show l[0] = UInt8.ofNat 48 from h48)] at a1
          rw [decide_eq_true h48] at HP
          clear h48
          generalize (l[0].toNat : Int) = x at d1 a1
          have a1' : (x != 48) = false := a1
          clear a1
          go_wp2
          go_ret2
          exact ⟨z.toNat, false, by rw [Int.toNat_of_nonneg hz0]; rfl, by omega, HP.out, rfl⟩
        · rw [decide_eq_false (show ¬ l[0] = UInt8.ofNat 48 from h48)] at a1
          rw [decide_eq_false h48] at HP
          clear h48
          generalize (l[0].toNat : Int) = x at d1 a1
          have a1' : (x != 48) = true := a1
          clear a1
          obtain ⟨r, hr⟩ : ∃ r, decide (z ≤ 65535) = r := ⟨_, rfl⟩
          rw [hr] at HP
          go_wp2
          go_ret2
          exact ⟨z.toNat, r, by rw [Int.toNat_of_nonneg hz0]; rfl, by omega, HP.out, rfl⟩
      · obtain rfl : l = [] := List.eq_nil_of_length_eq_zero (by omega)
        go_wp2
        go_ret2
        exact ⟨z.toNat, false, by rw [Int.toNat_of_nonneg hz0]; rfl, by omega, rfl, rfl⟩

/-! ### hostPort -/
theorem isHost_q (v : Value) (l : Tx) (w : World) (b : Bool) (hb : isHostB l = b) (hv : Bv w v l) : Calls Tryz.prog 81 #[v] w fun e w' => e = .returned (.bool b) ∧ w' = w := by
  subst hb
  exact (isHost_c v l w hv).mono fun e w' ⟨h1, h2⟩ => ⟨h1, h2.symm⟩
def HPPost (w0 : World) (l : Tx) (w : World) (e : Ending) (w' : World) : Prop :=
  ∃ (v : Value) (n : Nat) (ok : Bool), e = .returned (.tuple #[v, .int .i64 n, .bool ok]) ∧ Dr w w' ∧ (∃ A m c, v = .slice A m c) ∧ n ≤ 655359 ∧ if ok = true then ∃ h, hostPortS l = some (h, n) ∧ Bv w0 v h else hostPortS l = none
theorem ixI_cases (l : Tx) (c : UInt8) : (∃ i : Nat, ixI l c = i ∧ i < l.length ∧ ixOf l c = i) ∨ (ixI l c = -1 ∧ ¬ ixOf l c < l.length) := by
  unfold ixI
  by_cases h : ixOf l c < l.length
  · exact .inl ⟨ixOf l c, by rw [if_pos h], h, rfl⟩
  · exact .inr ⟨by rw [if_neg h], h⟩
set_option maxRecDepth 4000 in
set_option maxHeartbeats 2000000 in
theorem hostPort_c (v : Value) (l : Tx) (w0 w : World) (h0 : Le w0 w) (hv : Bv w0 v l) : Calls Tryz.prog 60 #[v] w (HPPost w0 l w) := by
  have HV := Lib.hid hv
  have H0 := Lib.hid h0
  obtain ⟨A, cc, rfl, h1, h2, h4⟩ := hv
  have h3 := h4.1
  clear h4 h0
  have ci := indexOf_c _ l 58 w (HV.out.le H0.out)
  rcases ixI_cases l 58 with ⟨i, e1, hi, e2⟩ | ⟨e1, e2⟩
  · rw [e1] at ci
    have CI := Lib.hid ci
    obtain ⟨v2, hb2, q1, q2⟩ := cut_from (k := i + 1) (z := (i : Int) + 1) HV.out hi (by omega)
    have HB2 := Lib.hid hb2
    have hb3 := cut_to (k := i) HV.out (by omega) (Nat.le_refl i) (by omega)
    have hb4 := cut_to (k := i) HV.out (by omega) (m := cc) (by omega) (Nat.le_refl _)
    have HB3 := Lib.hid hb3
    have HB4 := Lib.hid hb4
    have HS : Hid (hostPortS l = (match portS (l.drop (i + 1)) with | some n => if isHostB (l.take i) then some (l.take i, n) else none | none => none)) := Lib.hid (by unfold hostPortS; rw [e2, if_pos hi]; rfl)
    clear hb2 hb3 hb4 e1 e2 ci
    go_enter Tryz.func60, Tryz.ntmps60
    go_wp2_with fail
    refine CI.out.mono ?_
    rintro e w' ⟨rfl, rfl⟩
    go_wp2_with fail
    refine (portOf_c v2 _ _ (HB2.out.le H0.out)).mono ?_
    rintro e w' ⟨n, ok, rfl, hn, hp, rfl⟩
    have HP := Lib.hid hp
    clear hp q1 q2
    cases ok
    · go_wp2
      go_quiet (fail)
      go_wp2
      go_ret3
      refine ⟨_, n, false, rfl, ⟨_, rfl⟩, ⟨_, _, _, rfl⟩, hn, ?_⟩
      have hp := HP.out
      have hs := HS.out
      rw [hp] at hs
      rw [if_neg (by decide)]
      exact hs
    · obtain ⟨r, hr⟩ : ∃ r, isHostB (l.take i) = r := ⟨_, rfl⟩
      have HR := Lib.hid hr
      clear hr
      go_wp2
      go_quiet ((go_at_call 81; exact Calls.quiet_of_same (isHost_q _ _ _ _ HR.out ((HB4.out.le H0.out).dn _))))
      go_wp2
      go_ret3
      refine ⟨_, n, r, rfl, ⟨_, rfl⟩, ⟨_, _, _, rfl⟩, hn, ?_⟩
      have hp := HP.out
      have hs := HS.out
      rw [hp] at hs
      have hr := HR.out
      simp only [hr] at hs
      cases r
      · rw [if_neg (by decide)]
        exact hs
      · rw [if_pos rfl]
        exact ⟨_, hs, HB3.out⟩
  · rw [e1] at ci
    have CI := Lib.hid ci
    have HS : Hid (hostPortS l = if isHostB l then some (l, 0) else none) := Lib.hid (by unfold hostPortS; rw [if_neg e2])
    obtain ⟨r, hr⟩ : ∃ r, isHostB l = r := ⟨_, rfl⟩
    have HR := Lib.hid hr
    clear hr e1 e2 ci
    go_enter Tryz.func60, Tryz.ntmps60
    go_wp2_with fail
    refine CI.out.mono ?_
    rintro e w' ⟨rfl, rfl⟩
    go_wp2_with fail
    refine (isHost_q _ _ _ _ HR.out (HV.out.le H0.out)).mono ?_
    rintro e w' ⟨rfl, rfl⟩
    go_wp2
    go_ret3
    refine ⟨_, 0, r, rfl, Dr.refl _, ⟨_, _, _, rfl⟩, by omega, ?_⟩
    have hs := HS.out
    have hr := HR.out
    rw [hr] at hs
    cases r
    · rw [if_neg (by decide)]
      exact hs
    · rw [if_pos rfl]
      exact ⟨_, hs, HV.out⟩
end Go.Proofs.YtainljmnhocbgaaGreatDoor
