/- Contracts: the specification's lowered, parts. -/
import Derived.Test.YtbdeohmdpkkpdaaGreatDoorSpW4
set_option linter.unusedVariables false
set_option linter.unusedSimpArgs false
namespace Go.Proofs.YtbdeohmdpkkpdaaGreatDoor
open Go.RowKit

/-! ### lowered -/
theorem lowC_up {c : UInt8} (h1 : 65 ≤ (c.toNat : Int)) (h2 : (c.toNat : Int) ≤ 90) : ((lowC c).toNat : Int) = (c.toNat : Int) + 32 := by
  have e1 : (65 : UInt8).toNat = 65 := rfl
  have e2 : (90 : UInt8).toNat = 90 := rfl
  have e3 : (32 : UInt8).toNat = 32 := rfl
  have h : (65 ≤ c && c ≤ 90) = true := by simp only [Bool.and_eq_true, decide_eq_true_eq, UInt8.le_iff_toNat_le]; omega
  unfold lowC
  rw [if_pos h, UInt8.toNat_add, e3, Nat.mod_eq_of_lt (by omega)]
  omega
theorem lowC_no {c : UInt8} (h : ¬ (65 ≤ (c.toNat : Int) ∧ (c.toNat : Int) ≤ 90)) : lowC c = c := by
  have e1 : (65 : UInt8).toNat = 65 := rfl
  have e2 : (90 : UInt8).toNat = 90 := rfl
  have h' : ¬ (65 ≤ c && c ≤ 90) = true := by simp only [Bool.and_eq_true, decide_eq_true_eq, UInt8.le_iff_toNat_le]; omega
  unfold lowC
  rw [if_neg h']
/-- a text of which the first k bytes are turned -/
def half (f : UInt8 → UInt8) (l : Tx) (k : Nat) : Tx := (l.take k).map f ++ l.drop k
theorem half_len (f : UInt8 → UInt8) (l : Tx) (k : Nat) : (half f l k).length = l.length := by unfold half; simp only [List.length_append, List.length_map, List.length_take, List.length_drop]; omega
theorem half_at (f : UInt8 → UInt8) {l : Tx} {k : Nat} (h : k < l.length) : (half f l k)[k]? = some l[k] := by
  unfold half
  rw [List.getElem?_append_right (by simp only [List.length_map, List.length_take]; omega)]
  have e : k - ((l.take k).map f).length = 0 := by simp only [List.length_map, List.length_take]; omega
  rw [e, List.getElem?_drop, Nat.add_zero, List.getElem?_eq_getElem h]
theorem half_succ (f : UInt8 → UInt8) {l : Tx} {k : Nat} (h : k < l.length) : half f l (k + 1) = (half f l k).set k (f l[k]) := by
  unfold half
  have e : ((l.take k).map f).length = k := by simp only [List.length_map, List.length_take]; omega
  rw [List.set_append_right _ _ (by omega), e, Nat.sub_self, List.drop_eq_getElem_cons h, List.set_cons_zero, List.take_succ_eq_append_getElem h, List.map_append, List.append_assoc]
  rfl
theorem half_keep (f : UInt8 → UInt8) {l : Tx} {k : Nat} (h : k < l.length) (hf : f l[k] = l[k]) : half f l (k + 1) = half f l k := by
  unfold half
  rw [List.drop_eq_getElem_cons h, List.take_succ_eq_append_getElem h, List.map_append, List.append_assoc, List.map_cons, List.map_nil, hf]
  rfl
theorem half_end (f : UInt8 → UInt8) (l : Tx) {k : Nat} (h : l.length ≤ k) : half f l k = l.map f := by
  unfold half; rw [List.take_of_length_le h, List.drop_eq_nil_of_le h, List.append_nil]
theorem u8s_set (l : Tx) (k : Nat) (c : UInt8) : (u8s l).set k (.int .u8 (c.toNat : Int)) = u8s (l.set k c) := by unfold u8s; rw [List.map_set]
theorem u8s_at {l : Tx} {k : Nat} {c : UInt8} (h : l[k]? = some c) : (u8s l)[k]? = some (.int .u8 (c.toNat : Int)) := by unfold u8s; rw [List.getElem?_map, h]; rfl
def LowPost (l : Tx) (w : World) (e : Ending) (w' : World) : Prop := ∃ v, e = .returned v ∧ OwnB w.heap.size w' v (l.map lowC) ∧ Le w w'
set_option maxRecDepth 4000 in
set_option maxHeartbeats 2000000 in
theorem lowered_c (v : Value) (l : Tx) (w : World) (hv : Bv w v l) : Calls Tryz.prog 54 #[v] w (LowPost l w) := by
  have HV := Lib.hid hv
  obtain ⟨A0, c0, hv0, hl0⟩ := bv_slice hv
  clear hv0 hv
  go_enter Tryz.func54, Tryz.ntmps54
  go_wp2_with (at_builtin; refine wpList_append_bv rfl (.const (.slice none 0 0)) (.tmp 5) rfl (base := w.heap.size) rfl rfl (OwnB.nil _ _) HV.out ?_ (Nat.le_refl _) ?_)
  · simp only [List.length_nil]; omega
  intro v1 w1 hown hgrow
  have hle1 : Le w w1 := Below.grown' (Le.refl w) hgrow (Nat.le_refl _) (fun g hg => by simp [Value.ownBlock] at hg)
  obtain ⟨A, c, rfl, _⟩ := bv_slice (hown.bv hl0)
  have HOWN := Lib.hid hown
  have HLE := Lib.hid hle1
  clear hown hgrow hle1
  go_wp2
  go_loopg [4] (l.length) (fun n i wr => ∃ k : Nat, n + k = l.length ∧ i = .int .i64 k ∧ Le w wr ∧ OwnB w.heap.size wr (.slice A l.length c) (half lowC l k))
  case atStart => exact ⟨0, by omega, rfl, HLE.out, by have := HOWN.out; unfold half; rw [List.take_zero, List.map_nil, List.drop_zero, List.nil_append]; exact this⟩
  case round =>
    obtain ⟨k, hn, rfl, hle, hown⟩ := hrel
    have HO := Lib.hid hown
    have HL := Lib.hid hle
    have HN : gk + k ≤ l.length ∧ l.length ≤ gk + k := by omega
    clear hn hle
    by_cases hlt : k < l.length
    · have hown' := hown
      unfold OwnB at hown'
      rw [half_len] at hown'
      obtain ⟨g, cap, hvv, _⟩ := hown'.form (by omega)
      obtain ⟨rfl, rfl⟩ : A = some ⟨g, 0, none⟩ ∧ c = cap := by injection hvv with h1 _ h2; exact ⟨h1, h2⟩
      have d1 : wr.cell? ⟨g, k, none⟩ = some (.int .u8 (l[k].toNat : Int)) := by rw [hown'.cellAt k (by omega), u8s_at (half_at lowC hlt)]
      have z1 := hown'.frozenAt k
      have hst := hown'.stored k (.int .u8 ((lowC l[k]).toNat : Int))
      rw [u8s_set, ← half_succ lowC hlt] at hst
      have hb := l[k].toNat_lt
      by_cases hup : 65 ≤ (l[k].toNat : Int) ∧ (l[k].toNat : Int) ≤ 90
      · have e := lowC_up hup.1 hup.2
        rw [e] at hst
        have HST : Hid (OwnB w.heap.size (wr.setCell ⟨g, k, none⟩ (.int .u8 ((l[k].toNat : Int) + 32))) (.slice (some ⟨g, 0, none⟩) l.length c) (half lowC l (k + 1)) ∧ Le w (wr.setCell ⟨g, k, none⟩ (.int .u8 ((l[k].toNat : Int) + 32)))) := Lib.hid (by
          refine ⟨?_, Below.grown' HL.out hst.2 (Nat.le_refl _) (fun g' hg' => ?_)⟩
          · unfold OwnB
            rw [half_len]
            exact hst.1
          · injection hg' with hg'
            subst hg'
            exact (own_row' hown' g rfl).1)
        obtain ⟨n1, n2⟩ := hup
        clear hst hown hown' hvv e
        generalize (l[k].toNat : Int) = x at d1 n1 n2 HST
        go_wp2
        go_roundg (gk - 1)
        case measure => omega
        case rel => exact ⟨k + 1, by omega, by go_num, HST.out.2, HST.out.1⟩
      · have e := lowC_no hup
        have HST : Hid (OwnB w.heap.size wr (.slice (some ⟨g, 0, none⟩) l.length c) (half lowC l (k + 1))) := Lib.hid (by rw [half_keep lowC hlt e]; exact hown)
        clear hst hown hown' hvv e
        by_cases n1 : 65 ≤ (l[k].toNat : Int)
        · have n2 : 90 < (l[k].toNat : Int) := by omega
          clear hup
          generalize (l[k].toNat : Int) = x at d1 n1 n2
          go_wp2
          go_roundg (gk - 1)
          case measure => omega
          case rel => exact ⟨k + 1, by omega, by go_num, HL.out, HST.out⟩
        · have n2 : (l[k].toNat : Int) < 65 := by omega
          clear hup n1
          generalize (l[k].toNat : Int) = x at d1 n2
          go_wp2
          go_roundg (gk - 1)
          case measure => omega
          case rel => exact ⟨k + 1, by omega, by go_num, HL.out, HST.out⟩
    · have HE : Hid (OwnB w.heap.size wr (.slice A l.length c) (l.map lowC)) := Lib.hid (by rw [← half_end lowC l (k := k) (by omega)]; exact hown)
      clear hown
      go_wp2
      go_ret
      exact ⟨_, rfl, HE.out, HL.out⟩

/-! ### parts -/
theorem pcs_at {c : UInt8} (a r : Tx) (h : ∀ x ∈ a, x ≠ c) : pcs c (a ++ c :: r) = a :: pcs c r := by
  induction a with
  | nil => show pcs c (c :: r) = _; rw [pcs, if_pos rfl]
  | cons x t ih =>
    show pcs c (x :: (t ++ c :: r)) = _
    rw [pcs, if_neg (h x (by simp)), ih fun y hy => h y (by simp [hy])]
theorem pcs_no {c : UInt8} {a : Tx} (h : ∀ x ∈ a, x ≠ c) : pcs c a = [a] := by
  induction a with
  | nil => rfl
  | cons x t ih => rw [pcs, if_neg (h x (by simp)), ih fun y hy => h y (by simp [hy])]
theorem ixOf_split' {l : Tx} {c : UInt8} (h : ixOf l c < l.length) : l = l.take (ixOf l c) ++ c :: l.drop (ixOf l c + 1) ∧ ∀ x ∈ l.take (ixOf l c), x ≠ c := by
  have h0 : l[ixOf l c] = c := by
    have := List.findIdx_getElem (xs := l) (p := (· == c)) (w := h)
    exact eq_of_beq this
  constructor
  · have e := (List.take_append_drop (ixOf l c) l).symm
    rw [List.drop_eq_getElem_cons h, h0] at e
    exact e
  · intro x hx
    obtain ⟨i, hi, e⟩ := List.mem_take_iff_getElem.1 hx
    have := List.not_of_lt_findIdx (xs := l) (p := (· == c)) (i := i) (by unfold ixOf at hi; omega)
    rw [e] at this
    simpa using this
theorem ixOf_none' {l : Tx} {c : UInt8} (h : ¬ ixOf l c < l.length) : ∀ x ∈ l, x ≠ c := by
  have h1 : l.findIdx (· == c) = l.length := by
    have := List.findIdx_le_length (xs := l) (p := (· == c))
    unfold ixOf at h
    omega
  rw [List.findIdx_eq_length] at h1
  intro x hx
  simpa using h1 x hx
/-- a slice of texts that reads as ls: its cells in w, the texts in w0 -/
def Sl (w0 w : World) (v : Value) (ls : List Tx) : Prop :=
  ∃ A c, v = .slice A ls.length c ∧ ls.length ≤ c ∧ c ≤ 9223372036854775807 ∧ ls.length ≤ 1099511627776 ∧
    (0 < ls.length → ∃ g o, A = some ⟨g, o, none⟩ ∧ ∀ j (h : j < ls.length), ∃ x, w.cell? ⟨g, o + j, none⟩ = some x ∧ Bv w0 x ls[j])
theorem Sl.at_ {w0 w : World} {A : Option Addr} {n c : Nat} {ls : List Tx} (h : Sl w0 w (.slice A n c) ls) {k : Nat} (hk : k < ls.length) :
    ∃ g o, A = some ⟨g, o, none⟩ ∧ ∃ x, w.cell? ⟨g, o + k, none⟩ = some x ∧ Hid (Bv w0 x ls[k]) := by
  obtain ⟨A', c', e, h1, h2, h3, h4⟩ := h
  injection e with e1 e2 e3
  subst e1
  obtain ⟨g, o, rfl, hc⟩ := h4 (by omega)
  obtain ⟨x, hx, hb⟩ := hc k hk
  exact ⟨g, o, rfl, x, hx, Lib.hid hb⟩
/-- values that read as texts -/
def BAll (w : World) (xs : List Value) (ls : List Tx) : Prop := xs.length = ls.length ∧ ∀ j (h : j < ls.length), ∃ x, xs[j]? = some x ∧ Bv w x ls[j]
theorem BAll.nil (w : World) : BAll w [] [] := ⟨rfl, fun j h => by simp at h⟩
theorem BAll.snoc {w : World} {xs : List Value} {ls : List Tx} (h : BAll w xs ls) {x : Value} {l : Tx} (hx : Bv w x l) : BAll w (xs ++ [x]) (ls ++ [l]) := by
  refine ⟨by simp [h.1], fun j hj => ?_⟩
  by_cases hlt : j < ls.length
  · obtain ⟨y, e1, e2⟩ := h.2 j hlt
    exact ⟨y, by rw [List.getElem?_append_left (by rw [h.1]; exact hlt)]; exact e1, by rw [List.getElem_append_left hlt]; exact e2⟩
  · simp only [List.length_append, List.length_cons, List.length_nil] at hj
    obtain rfl : j = ls.length := by omega
    exact ⟨x, by rw [List.getElem?_append_right (by rw [h.1]; exact Nat.le_refl _), h.1, Nat.sub_self]; rfl, by simpa using hx⟩
theorem Sl.of_row {w w0 : World} {base : Nat} {E : TypeId} {v : Value} {xs : List Value} {ls : List Tx} (h : w.ownsRow base E 1 v ls.length xs) (k : BAll w0 xs ls) (hl : ls.length ≤ 1099511627776) : Sl w0 w v ls := by
  have h0 := h
  obtain ⟨_, h2⟩ := h
  rcases h2 with ⟨rfl, hn⟩ | ⟨g, cap, cur, rfl, hg, hh, hle', hm, hs, ht⟩
  · obtain rfl : ls = [] := List.eq_nil_of_length_eq_zero hn
    exact ⟨none, 0, rfl, by simp, by simp, by simp, fun h => by simp at h⟩
  · unfold maxLen at hm
    refine ⟨_, _, rfl, hle', hm, hl, fun _ => ⟨g, 0, rfl, fun j hj => ?_⟩⟩
    obtain ⟨x, e1, e2⟩ := k.2 j hj
    have := h0.cells (g := g) rfl j x e1
    rw [add_adr] at this
    exact ⟨x, this, e2⟩
theorem bs_info : ((Tryz.prog).info? 22).map (fun i => (i.zero, i.size, i.bytes)) = some (some (.slice none 0 0), 1, 24) := by kernel_rfl
theorem pcs_len (c : UInt8) (l : Tx) : (pcs c l).length ≤ l.length + 1 := by
  induction l with
  | nil => simp [pcs]
  | cons x r ih =>
    rw [pcs]
    split
    · simp only [List.length_cons]; omega
    · split
      · simp
      · rename_i e
        rw [e] at ih
        simp only [List.length_cons] at ih ⊢
        omega
def PartsPost (w0 : World) (l : Tx) (c : UInt8) (w : World) (e : Ending) (w' : World) : Prop := ∃ v, e = .returned v ∧ Sl w0 w' v (pcs c l) ∧ Le w w'
set_option maxRecDepth 4000 in
set_option maxHeartbeats 2000000 in
theorem parts_c (v : Value) (l : Tx) (c : UInt8) (w0 w : World) (h0 : Le w0 w) (hv : Bv w0 v l) (hl : l.length ≤ 1099511627000) : Calls Tryz.prog 106 #[v, .int .u8 (c.toNat : Int)] w (PartsPost w0 l c w) := by
  have HV := Lib.hid hv
  have H0 := Lib.hid h0
  clear hv h0
  go_enter Tryz.func106, Tryz.ntmps106
  go_wp2
  go_loopg [0, 5] (l.length + 1) (fun n x sv wr => ∃ (rest : Tx) (xs : List Value) (done : List Tx), rest.length < n ∧ n + done.length ≤ l.length + 1 ∧ Bv w0 x rest ∧ Le w wr ∧ wr.ownsRow w.heap.size 22 1 sv done.length xs ∧ BAll w0 xs done ∧ pcs c l = done ++ pcs c rest)
  case atStart => exact ⟨l, [], [], by omega, by simp, HV.out, Le.refl w, World.ownsRow_nil _ _ _ _, BAll.nil _, rfl⟩
  case round =>
    obtain ⟨rest, xs, done, hn, hn2, hx, hle, hown, hba, hpc⟩ := hrel
    have HX := Lib.hid hx
    have HO := Lib.hid hown
    have HLE := Lib.hid hle
    have HBA := Lib.hid hba
    have HPC := Lib.hid hpc
    have ci := indexOf_c _ rest c wr (hx.le (Le.trans H0.out hle))
    obtain ⟨A, cc, rfl, hrl⟩ := bv_slice hx
    obtain ⟨i0, hi0, hz0, hz1, hz2⟩ := info_parts bs_info
    have hsz := hle.size
    rcases ixI_cases rest c with ⟨i, e1, hi, e2⟩ | ⟨e1, e2⟩
    · rw [e1] at ci
      have CI := Lib.hid ci
      obtain ⟨v2, hb2, q1, q2⟩ := cut_from (k := i + 1) (z := (i : Int) + 1) hx hi (by omega)
      have HB2 := Lib.hid hb2
      have hcc : rest.length ≤ cc := by obtain ⟨_, _, e, h, _⟩ := hx; injection e with _ _ e; omega
      have HB3 := Lib.hid (cut_to (k := i) hx (by omega) (Nat.le_refl i) (by omega))
      have HP : Hid (pcs c rest = rest.take i :: pcs c (rest.drop (i + 1))) := Lib.hid (by
        have hs := ixOf_split' (l := rest) (c := c) (by omega)
        rw [e2] at hs
        have := pcs_at (c := c) (rest.take i) (rest.drop (i + 1)) hs.2
        rw [← hs.1] at this
        exact this)
      have HLD : Hid ((rest.drop (i + 1)).length + (i + 1) = rest.length) := Lib.hid (by rw [List.length_drop]; omega)
      clear hx hle hown hba hpc e1 e2 ci hb2
      go_wp2_with fail
      refine CI.out.mono ?_
      rintro e w' ⟨rfl, rfl⟩
      go_wp2_with (at_builtin; refine wpList_append_lies _ rfl _ _ 74 rfl w.heap.size 22 i0 (.slice none 0 0) 1 24 Tryz.underlying74 hi0 hz0 hz1 hz2 rfl (by decide) _ _ _ rfl (HO.out.alloc _) ⟨wr.heap.size, 0, none⟩ 1 1 [.slice A i i] rfl rfl ?c1 ?c2 ?c3 ?c4 ?c5 ?c6 (wr.heap.size + 1) ?c7 ?_)
      case c1 => exact World.news_of_block (heap_alloc_new wr _)
      case c2 => intro u hu; simp only [List.mem_cons, List.mem_nil_iff, or_false] at hu; subst hu; rfl
      case c3 => omega
      case c4 => unfold maxLen; omega
      case c5 => omega
      case c6 => simp; omega
      case c7 => simp
      intro g2 cap2 w2 hown2 hgrow2 hat2 hlt2
      have HLE2 : Hid (Le w w2) := Lib.hid (Below.grown' (HLE.out.alloc _) hgrow2 (Nat.le_refl _) (fun g hg => (own_row' HO.out g hg).1))
      have HO2 : Hid (w2.ownsRow w.heap.size 22 1 (.slice (some ⟨g2, 0, none⟩) (done.length + 1) cap2) (done ++ [rest.take i]).length (xs ++ [.slice A i i])) := Lib.hid (by rw [List.length_append]; exact hown2)
      have HBA2 := Lib.hid (HBA.out.snoc HB3.out)
      have HPC2 : Hid (pcs c l = (done ++ [rest.take i]) ++ pcs c (rest.drop (i + 1))) := Lib.hid (by rw [HPC.out, HP.out, List.append_assoc]; rfl)
      have HL2 : Hid ((done ++ [rest.take i]).length = done.length + 1) := Lib.hid (by simp)
      clear hown2 hgrow2 hat2 hlt2
      go_wp2
      go_roundg (gk - 1)
      case measure => omega
      case rel => exact ⟨rest.drop (i + 1), _, done ++ [rest.take i], by have := HLD.out; omega, by have := HL2.out; omega, HB2.out, HLE2.out, HO2.out, HBA2.out, HPC2.out⟩
    · rw [e1] at ci
      have CI := Lib.hid ci
      have HP : Hid (pcs c rest = [rest]) := Lib.hid (pcs_no (ixOf_none' e2))
      clear hx hle hown hba hpc e1 e2 ci
      go_wp2_with fail
      refine CI.out.mono ?_
      rintro e w' ⟨rfl, rfl⟩
      go_wp2_with (at_builtin; refine wpList_append_lies _ rfl _ _ 74 rfl w.heap.size 22 i0 (.slice none 0 0) 1 24 Tryz.underlying74 hi0 hz0 hz1 hz2 rfl (by decide) _ _ _ rfl (HO.out.alloc _) ⟨wr.heap.size, 0, none⟩ 1 1 [.slice A rest.length cc] rfl rfl ?c1 ?c2 ?c3 ?c4 ?c5 ?c6 (wr.heap.size + 1) ?c7 ?_)
      case c1 => exact World.news_of_block (heap_alloc_new wr _)
      case c2 => intro u hu; simp only [List.mem_cons, List.mem_nil_iff, or_false] at hu; subst hu; rfl
      case c3 => omega
      case c4 => unfold maxLen; omega
      case c5 => omega
      case c6 => simp; omega
      case c7 => simp
      intro g2 cap2 w2 hown2 hgrow2 hat2 hlt2
      have HLE2 : Hid (Le w w2) := Lib.hid (Below.grown' (HLE.out.alloc _) hgrow2 (Nat.le_refl _) (fun g hg => (own_row' HO.out g hg).1))
      have HO2 : Hid (w2.ownsRow w.heap.size 22 1 (.slice (some ⟨g2, 0, none⟩) (done.length + 1) cap2) (pcs c l).length (xs ++ [.slice A rest.length cc])) := Lib.hid (by rw [HPC.out, HP.out, List.length_append]; exact hown2)
      have HBA2 : Hid (BAll w0 (xs ++ [.slice A rest.length cc]) (pcs c l)) := Lib.hid (by rw [HPC.out, HP.out]; exact HBA.out.snoc HX.out)
      clear hown2 hgrow2 hat2 hlt2
      go_wp2
      go_ret
      exact ⟨_, rfl, Sl.of_row HO2.out HBA2.out (by have := pcs_len c l; omega), HLE2.out⟩
end Go.Proofs.YtbdeohmdpkkpdaaGreatDoor
