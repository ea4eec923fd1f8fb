/- Contracts: parameters: Items, Equals; the thin package's ParamsEqual. -/
import Derived.Test.YtgelnjcjpkklbaaGreatDoorGet
import Derived.Test.YtgelnjcjpkklbaaGreatDoorHead
import Derived.Maps.RangeWalk
import Derived.Maps.Views
import Derived.Maps.StringElems
set_option linter.unusedVariables false
set_option linter.unusedSimpArgs false
namespace Go.Proofs.YtgelnjcjpkklbaaGreatDoor
open Go.RowKit Go.Maps

/-- the map of the pairs -/
def mpD (l : KVs) : DataW Unit := l.foldl (fun D x => D.put (.string x.1) (.lit (.string x.2))) (.map [])
theorem mpD_snoc (l : KVs) (x : Tx × Tx) : mpD (l ++ [x]) = (mpD l).put (.string x.1) (.lit (.string x.2)) := by unfold mpD; rw [List.foldl_append]; rfl
/-- the value of the last pair of a key -/
def lastv : KVs → Tx → Option Tx
  | [], _ => none
  | x :: r, k => match lastv r k with | some v => some v | none => if x.1 = k then some x.2 else none
theorem lastv_cons (x : Tx × Tx) (r : KVs) (k : Tx) : lastv (x :: r) k = match lastv r k with | some v => some v | none => if x.1 = k then some x.2 else none := rfl
/-- keys, each once -/
def DK (l : KVs) : Prop := l.Pairwise (fun x y => x.1 ≠ y.1)
theorem fnd_cons (x : Tx × Tx) (r : KVs) (k : Tx) : fnd (x :: r) k = if x.1 = k then some x.2 else fnd r k := by
  unfold fnd
  rw [List.find?_cons]
  by_cases h : x.1 = k
  · rw [decide_eq_true h, if_pos h]; rfl
  · rw [decide_eq_false h, if_neg h]
theorem fnd_mem {l : KVs} {k v : Tx} (h : fnd l k = some v) : (k, v) ∈ l := by
  induction l with
  | nil => cases h
  | cons x r ih =>
    rw [fnd_cons] at h
    split at h
    · rename_i e
      injection h with h
      obtain ⟨a, b⟩ := x
      simp only at e h
      subst e; subst h
      exact List.mem_cons_self ..
    · exact List.mem_cons_of_mem _ (ih h)
theorem fnd_of_mem {l : KVs} (hd : DK l) {x : Tx × Tx} (h : x ∈ l) : fnd l x.1 = some x.2 := by
  induction l with
  | nil => cases h
  | cons y r ih =>
    obtain ⟨h1, h2⟩ := List.pairwise_cons.1 hd
    rw [fnd_cons]
    rcases List.mem_cons.1 h with rfl | h
    · rw [if_pos rfl]
    · rw [if_neg (h1 x h), ih h2 h]
theorem lastv_fnd {l : KVs} (hd : DK l) (k : Tx) : lastv l k = fnd l k := by
  induction l with
  | nil => rfl
  | cons x r ih =>
    obtain ⟨h1, h2⟩ := List.pairwise_cons.1 hd
    rw [lastv_cons, ih h2, fnd_cons]
    by_cases e : x.1 = k
    · have hn : fnd r k = none := by
        cases hf : fnd r k with
        | none => rfl
        | some v => exact absurd e (h1 (k, v) (fnd_mem hf))
      rw [hn, if_pos e]
    · simp only [if_neg e]
      cases fnd r k <;> rfl
theorem isMap_mp (l : KVs) : IsMap (mpD l) := by
  unfold mpD
  suffices h : ∀ D : DataW Unit, IsMap D → IsMap (l.foldl (fun D x => D.put (.string x.1) (.lit (.string x.2))) D) from h _ isMap_empty
  induction l with
  | nil => intro D h; exact h
  | cons x r ih => intro D h; exact ih _ (h.put _ _)
theorem mp_fold (k : Tx) (z : DataW Unit) : ∀ (l : KVs) (D : DataW Unit), IsMap D → (l.foldl (fun D x => D.put (.string x.1) (.lit (.string x.2))) D).atKey (.string k) z = match lastv l k with | some v => .lit (.string v) | none => D.atKey (.string k) z
  | [], D, _ => rfl
  | x :: r, D, hD => by
    rw [List.foldl_cons, mp_fold k z r _ (hD.put _ _)]
    rw [lastv_cons]
    cases lastv r k with
    | some v => rfl
    | none =>
      by_cases e : x.1 = k
      · subst e
        simp only [if_true]
        exact atKey_put_same (k := .string x.1) hD trivial _ _
      · simp only [if_neg e]
        exact atKey_put_other (k' := .string k) (k := .string x.1) (fun h => e (by injection h with h; exact h.symm)) _ _
theorem mp_at {l : KVs} (hd : DK l) (k : Tx) (z : DataW Unit) : (mpD l).atKey (.string k) z = match fnd l k with | some v => .lit (.string v) | none => z := by
  unfold mpD
  rw [mp_fold k z l _ isMap_empty, lastv_fnd hd]
  cases fnd l k <;> rfl
theorem mp_has {l : KVs} (hd : DK l) {k v : Tx} (h : fnd l k = some v) : Maps.has (mpD l) (.string k) = true := has_true_of_atKey (y := .lit (.string v)) fun z => by rw [mp_at hd, h]
theorem mp_val {l : KVs} (hd : DK l) {k v : Tx} (h : ∀ zd, (mpD l).atKey (.string k) zd = .lit (.string v)) : fnd l k = some v := by
  have h1 := h (.lit (.string (v ++ [0])))
  rw [mp_at hd] at h1
  cases hf : fnd l k with
  | none =>
    rw [hf] at h1
    injection h1 with h1
    injection h1 with h1
    have := congrArg List.length h1
    simp at this
  | some u =>
    rw [hf] at h1
    injection h1 with h1
    injection h1 with h1
    rw [h1]
theorem lawS : Keyed Tryz.prog 9 := string_keyed Tryz.underlying9
theorem Le.gr {w w' : World} (k : Le w w') : w.grownBy w' none := ⟨k.os, k.tape, k.output, k.size, fun i hi _ => k.block i hi⟩
theorem ownsMap_le {w w' : World} {b n : Nat} {D : DataW Unit} (h : w.ownsMap Tryz.prog 9 (plainElem Tryz.prog 9) b n D) (k : Le w w') : w'.ownsMap Tryz.prog 9 (plainElem Tryz.prog 9) b n D := h.kept k.gr (by simp)
def ItPost (l : KVs) (w : World) (e : Ending) (w' : World) : Prop := ∃ b n, e = .returned (.map (some b)) ∧ w'.ownsMap Tryz.prog 9 (plainElem Tryz.prog 9) b n (mpD l) ∧ Le w w'
set_option maxRecDepth 100000 in
set_option maxHeartbeats 2000000 in
theorem items_c (w : World) (v : Value) (l : KVs) (hv : Hp w v l) : Calls Tryz.prog 105 #[v] w (ItPost l w) := by
  obtain ⟨A, c, rfl, hc1, hc2, hl, hm, hr⟩ := hv
  have HM := Lib.hid hm
  clear hm
  have hmk : ∀ (W : World) (n : Nat), (Instr.makeMap 151 (some (.int .i64 n))).run Tryz.prog W = .ok (.map (some W.heap.size)) (W.alloc (.map #[] 0)) := fun W n => by
    simp [Instr.makeMap, run_underlying Tryz.underlying151, asInt, asIntOf]
  go_enter Tryz.func105, Tryz.ntmps105
  go_wp2
  go_loopg [11] (l.length) (fun n i wr => ∃ k : Nat, n + k = l.length ∧ i = .int .i64 k ∧ Le w wr ∧ wr.ownsMap Tryz.prog 9 (plainElem Tryz.prog 9) w.heap.size k (mpD (l.take k)))
  case atStart => exact ⟨0, by omega, rfl, (Le.refl w).alloc _, World.ownsMap_made _ _ _ _⟩
  case round =>
    obtain ⟨k, hn, rfl, hle, hown⟩ := hrel
    have HLE := Lib.hid hle
    have HOWN := Lib.hid hown
    have HN : gk + k ≤ l.length ∧ l.length ≤ gk + k := by omega
    clear hn hown
    by_cases hlt : k < l.length
    · obtain ⟨g, o, rfl, hg, hcells⟩ := hr (by omega)
      have d1 := hle.cell (hcells k hlt).1
      have d2 := hle.cell (hcells k hlt).2
      have hx := HM.out l[k] (List.getElem_mem hlt)
      have HX := Lib.hid hx
      have HS : Hid (mpD (l.take (k + 1)) = (mpD (l.take k)).put (.string l[k].1) (.lit (.string l[k].2))) := Lib.hid (by rw [List.take_succ_eq_append_getElem hlt, mpD_snoc])
      have HWL : Hid (w.heap.size < wr.heap.size) := Lib.hid HOWN.out.lt
      clear hle hcells hg hr hx
      have hkey : keyOf Tryz.prog 9 (.string (st l[k].1)) = some (.string l[k].1) := by
        have := WideMaps.keyOf_string_mk (P := Tryz.prog) Tryz.underlying9 (s := st l[k].1) (by rw [st_size]; unfold maxLen; have := HX.out.1; omega)
        exact this
      have hval : plainElem (H := Unit) Tryz.prog 9 (.string (st l[k].2)) = some (.lit (.string l[k].2), []) := plainElem_string Tryz.underlying9 (by rw [st_size]; unfold maxLen; have := HX.out.2; omega)
      have HK := Lib.hid hkey
      have HV := Lib.hid hval
      clear hkey hval
      go_wp2_with (at_mapUpdate; refine wpList_mapUpdate_own _ rfl _ _ _ 151 rfl 9 9 lawS Tryz.underlying151 _ w.heap.size k _ rfl (ownsMap_le HOWN.out ((Le.refl wr).alloc _)) (by unfold maxLen; omega) _ _ _ rfl rfl HK.out _ [] HV.out ?_; intro w1 hown1 hgrow1)
      have HO1 := Lib.hid hown1
      have HG1 := Lib.hid hgrow1
      clear hown1 hgrow1
      go_wp2
      go_roundg (gk - 1)
      case measure => omega
      case rel => exact ⟨k + 1, by omega, by go_num, Below.grown' (HLE.out.alloc _) HG1.out (Nat.le_refl _) (fun g hg => by injection hg with hg; omega), by rw [HS.out]; exact HO1.out⟩
    · have HT : Hid (l.take k = l) := Lib.hid (List.take_of_length_le (by omega))
      clear hr hle
      go_wp2
      go_ret
      exact ⟨w.heap.size, k, rfl, HT.out ▸ HOWN.out, HLE.out⟩

theorem keyS_inv {key : Value} {kl : Lit} (h : keyOf Tryz.prog 9 key = some kl) : ∃ x : ByteArray, key = .string x ∧ kl = .string (bs x) := by
  have hk := Tryz.underlying9
  cases key <;> simp [keyOf, hk, mapKey] at h
  obtain ⟨_, rfl⟩ := h
  exact ⟨_, rfl, rfl⟩
theorem valS_inv {v : Value} {y : DataW Unit × List MemPlace} (h : plainElem Tryz.prog 9 v = some y) : ∃ c : ByteArray, v = .string c ∧ y.1 = .lit (.string (bs c)) := by
  obtain ⟨s, rfl, rfl, _⟩ := plainElem_string_inv Tryz.underlying9 h
  exact ⟨s, rfl, rfl⟩
/-- the first list's pairs are in the second one -/
def EqP (a b : KVs) : Prop := ∀ k v, fnd a k = some v → fnd b k = some v
def JE (a b : KVs) (left : Lit → Bool) : Prop := ∀ k v, fnd a k = some v → left (.string k) = false → fnd b k = some v
theorem je_start {a b : KVs} (hd : DK a) : JE a b (Maps.has (mpD a)) := fun k v h h2 => by rw [mp_has hd h] at h2; cases h2
theorem je_end {a b : KVs} {left : Lit → Bool} (h : JE a b left) (hl : ∀ kl, left kl = false) : EqP a b := fun k v hk => h k v hk (hl _)
theorem je_step {a b : KVs} {left : Lit → Bool} (h : JE a b left) {x c : Tx} (h1 : fnd a x = some c) (h2 : fnd b x = some c) : JE a b (fun z => left z && !z.sameKey (.string x)) := by
  intro k v hk hl
  simp only [Bool.and_eq_false_iff] at hl
  by_cases e : k = x
  · subst e
    rw [h1] at hk
    injection hk with hk
    rw [← hk]; exact h2
  · rcases hl with hl | hl
    · exact h k v hk hl
    · rw [sameKey_ne (fun h => e (by injection h))] at hl
      cases hl
def EqR (a b : KVs) (r : Bool) : Prop := r = true ↔ (a.length = b.length ∧ EqP a b)
def EqPost (a b : KVs) (w : World) (e : Ending) (w' : World) : Prop := ∃ r, e = .returned (.bool r) ∧ EqR a b r ∧ Le w w'
set_option maxRecDepth 100000 in
set_option maxHeartbeats 4000000 in
theorem equals_c (w : World) (va vb : Value) (a b : KVs) (ha : Hp w va a) (hb : Hp w vb b) (hd : DK a) :
    Calls Tryz.prog 74 #[va, .iface 91 vb] w (EqPost a b w) := by
  have HA := Lib.hid ha
  have HB := Lib.hid hb
  have HD := Lib.hid hd
  have hta : ∀ (W : World) (A : Option Addr) (n c : Nat), (Instr.typeAssert (.iface 91 (.slice A n c)) 20 91 true).run Tryz.prog W = .ok (.tuple #[.slice A n c, .bool true]) W := fun W A n c => by kernel_rfl
  obtain ⟨A0, c0, rfl⟩ : ∃ A c, vb = .slice A b.length c := by obtain ⟨A, c, e, _⟩ := hb; exact ⟨A, c, e⟩
  clear ha hb hd
  go_enter Tryz.func74, Tryz.ntmps74
  go_wp2_with fail
  refine (length_c w _ a HA.out).mono ?_
  rintro e w' ⟨rfl, rfl⟩
  go_wp2_with fail
  refine (length_c w _ b HB.out).mono ?_
  rintro e w' ⟨rfl, rfl⟩
  by_cases hl : a.length = b.length
  case neg =>
    have hl' : ((a.length : Int) != (b.length : Int)) = true := bne_iff_ne.2 (by omega)
    have HX : Hid (EqR a b false) := Lib.hid ⟨(fun h => by cases h), fun h => absurd h.1 hl⟩
    clear hl
    go_wp2
    go_ret
    exact ⟨false, rfl, HX.out, Le.refl w⟩
  have hl' : ((a.length : Int) != (b.length : Int)) = false := by rw [hl]; simp
  have HL := Lib.hid hl
  clear hl
  by_cases h0 : a.length = 0
  · have hz1 : ((a.length : Int) == 0) = true := by simp [h0]
    have hz2 : ((b.length : Int) == 0) = true := by rw [← HL.out]; simp [h0]
    have HX : Hid (EqR a b true) := Lib.hid ⟨fun _ => ⟨HL.out, fun k v h => by rw [List.eq_nil_of_length_eq_zero h0] at h; cases h⟩, fun _ => rfl⟩
    clear h0
    go_wp2
    go_ret
    exact ⟨true, rfl, HX.out, Le.refl w⟩
  have hz1 : ((a.length : Int) == 0) = false := by rw [beq_eq_false_iff_ne]; omega
  clear h0
  generalize (b.length : Int) = bl at hl'
  generalize (a.length : Int) = al at hl' hz1
  go_wp2_with fail
  refine (items_c w _ a HA.out).mono ?_
  rintro e w1 ⟨bb, n, rfl, hown, hle⟩
  have HO := Lib.hid hown
  have HLE := Lib.hid hle
  clear hown hle
  go_wp2_with (at_range; refine wpList_range_own _ rfl _ 151 rfl 9 9 lawS Tryz.underlying151 _ bb n _ rfl HO.out ?_; intro w2 hrg0 hg0 hs0)
  have HRG := Lib.hid hrg0
  have HLE2 : Hid (Le w w2) := Lib.hid (Below.grown' HLE.out hg0 (Nat.le_refl _) (fun g hg => by cases hg))
  have HSZ : Hid (w.heap.size ≤ w1.heap.size) := Lib.hid HLE.out.size
  clear hrg0 hg0 hs0
  go_frame
  go_loopg [9] (Maps.size (mpD a)) (fun m _ wr => ∃ left : Lit → Bool, wr.ranges Tryz.prog 9 (plainElem Tryz.prog 9) bb w1.heap.size n (mpD a) left m ∧ JE a b left ∧ Le w wr)
  case atStart => exact ⟨_, HRG.out, je_start HD.out, HLE2.out⟩
  case round =>
    obtain ⟨left, hrg, hJ, hle⟩ := hrel
    have HR := Lib.hid hrg
    have HJ := Lib.hid hJ
    have HL1 := Lib.hid hle
    clear hrg hJ hle
    go_wp2_with (at_next; refine wpList_next_ranges _ rfl _ rfl 9 lawS (plainElem Tryz.prog 9) Value.string Value.string (fun key kl h => by obtain ⟨x, e, _⟩ := keyS_inv h; exact ⟨x, e⟩) (fun v y h => by obtain ⟨x, e, _⟩ := valS_inv h; exact ⟨x, e⟩) bb w1.heap.size n (mpD a) left gk rfl HR.out ?_ ?_)
    · intro hc0 hl0
      have HX : Hid (EqR a b true) := Lib.hid ⟨fun _ => ⟨HL.out, je_end HJ.out hl0⟩, fun _ => rfl⟩
      clear hc0 hl0
      go_wp2
      go_ret
      exact ⟨true, rfl, HX.out, HL1.out⟩
    · intro x c kl y y2 w2 cnt1 hkey hlk hR hat hrg1 hlt hg1 hs1 hen
      obtain ⟨x', ex, rfl⟩ := keyS_inv hkey
      cases ex
      obtain ⟨c', ec, hy⟩ := valS_inv hR
      cases ec
      obtain ⟨kx, rfl⟩ : ∃ k, x = st k := ⟨bs x, (st_bs x).symm⟩
      obtain ⟨cx, rfl⟩ : ∃ k, c = st k := ⟨bs c, (st_bs c).symm⟩
      replace hy : y = .lit (.string (bs (st cx))) := hy
      rw [bs_st] at hrg1 hat hlk hy
      rw [hy] at hat
      have HF := Lib.hid (mp_val HD.out hat)
      have HRG1 := Lib.hid hrg1
      have HLT : cnt1 < gk := hlt
      have HL2 : Hid (Le w w2) := Lib.hid (Below.grown' HL1.out hg1 (Nat.le_refl _) (fun g hg => by injection hg with hg; have := HSZ.out; omega))
      clear hkey hlk hR hat hrg1 hlt hg1 hs1 hy
      go_wp2_with fail
      refine (get_c w2 _ b kx (HB.out.le HL2.out)).mono ?_
      rintro e w3 ⟨rfl, hle3⟩
      have HL3 := Lib.hid (HL2.out.trans hle3)
      have HRG3 := Lib.hid (HRG1.out.kept hle3.gr (by simp) (by simp))
      clear hle3 hen
      by_cases hf : fnd b kx = some cx
      · rw [hf]
        have HJ2 := Lib.hid (je_step HJ.out HF.out hf)
        have hq : ((st cx).toList == (st cx).toList) = true := by simp
        clear hf
        go_wp2
        go_roundg cnt1
        case measure => exact HLT
        case rel => exact ⟨_, HRG3.out, HJ2.out, HL3.out⟩
      · have HX : Hid (EqR a b false) := Lib.hid ⟨fun h => by (cases h), fun h => absurd (h.2 kx cx HF.out) hf⟩
        cases hg : fnd b kx with
        | none =>
          clear hf hg
          go_wp2
          go_ret
          exact ⟨false, rfl, HX.out, HL3.out⟩
        | some u =>
          have hq : ((st cx).toList == (st u).toList) = false := by rw [st_beq2]; exact decide_eq_false (fun e => hf (by rw [hg, e]))
          clear hf hg
          go_wp2
          go_ret
          exact ⟨false, rfl, HX.out, HL3.out⟩
set_option maxHeartbeats 1000000 in
theorem iEq_c (φ ψ : Nat → Prop) (w : World) (va vb : Value) (a b : KVs) (ha : Kq φ w va a) (hb : Kq ψ w vb b) (ka : KSm 1099511627775 a) (kb : KSm 1099511627775 b) (hd : DK a) :
    Calls Tryz.prog 34 #[va, vb] w (EqPost a b w) := by
  have HA := Lib.hid ha
  have HB := Lib.hid hb
  clear ha hb
  go_enter Tryz.func34, Tryz.ntmps34
  go_wp2_with fail
  refine (ikv_c φ w _ a HA.out ka.2 ka.1).mono ?_
  rintro e w1 ⟨v1, rfl, h1, _, hle1⟩
  have H1 := Lib.hid h1
  have HL1 := Lib.hid hle1
  clear h1 hle1
  go_wp2_with fail
  refine (ikv_c ψ w1 _ b (HB.out.le HL1.out) kb.2 kb.1).mono ?_
  rintro e w2 ⟨v2, rfl, h2, _, hle2⟩
  have H2 := Lib.hid h2
  have H1' := Lib.hid (H1.out.le hle2)
  have HL2 := Lib.hid (HL1.out.trans hle2)
  clear h2 hle2
  go_wp2_with fail
  refine (equals_c w2 _ _ a b H1'.out H2.out hd).mono ?_
  rintro e w3 ⟨r, rfl, hr, hle3⟩
  have HR := Lib.hid hr
  have HL3 := Lib.hid (HL2.out.trans hle3)
  clear hr hle3
  go_wp2
  go_ret
  exact ⟨r, rfl, HR.out, HL3.out⟩
end Go.Proofs.YtgelnjcjpkklbaaGreatDoor
