/- Contracts: the specification's isHost, portOf, hostPort, isPrinted, allValued. Contracts: the specification's isPrinted, allValued, lowered, parts; append of bytes. Contracts: the specification's lowered, parts. -/
import Derived.Test.YtgpkfocgoigokaaGreatDoorSpW
import Derived.Test.YtgpkfocgoigokaaGreatDoorKnown
set_option linter.unusedVariables false
set_option linter.unusedSimpArgs false
namespace Go.Proofs.YtgpkfocgoigokaaGreatDoor
open Go.RowKit

def anB (c : Int) : Bool := alB c || nmB c
theorem anB_byte (x : UInt8) : anB (x.toNat : Int) = isAn x := by unfold anB isAn; rw [← nmB_byte, ← alB_byte]
theorem byte_ne (x : UInt8) (n : Nat) (hn : n < 256) : ((x.toNat : Int) != (n : Int)) = !decide (x = UInt8.ofNat n) := by
  have e : (UInt8.ofNat n).toNat = n := by rw [UInt8.toNat_ofNat', Nat.mod_eq_of_lt hn]
  have h := byte_eq x (UInt8.ofNat n)
  rw [e] at h
  rw [bne, h]
theorem byte_eqn (x : UInt8) (n : Nat) (hn : n < 256) : ((x.toNat : Int) == (n : Int)) = decide (x = UInt8.ofNat n) := by
  have e : (UInt8.ofNat n).toNat = n := by rw [UInt8.toNat_ofNat', Nat.mod_eq_of_lt hn]
  have h := byte_eq x (UInt8.ofNat n)
  rw [e] at h
  exact h

/-! ### isHost -/
def hch (c : UInt8) : Bool := isAn c || c == 45 || c == 46
theorem isHostB_eq {l : Tx} (h : 0 < l.length) : isHostB l = (l.all hch && (isAn l[0] && isAn (l[l.length - 1]'(by omega)))) := by
  unfold isHostB
  cases l with
  | nil => simp at h
  | cons x r =>
    rw [List.head?_cons, List.getLast?_eq_getElem?, List.getElem?_eq_getElem (by omega)]
    rfl
/-! ### cuts -/
theorem add_adr (b o k : Nat) : (⟨b, o, none⟩ : Addr).add k = ⟨b, o + k, none⟩ := by cases k <;> simp [Addr.add]
theorem head_beq {l : Tx} (h : 0 < l.length) (n : UInt8) : (l.head? == some n) = decide (l[0] = n) := by
  cases l with
  | nil => simp at h
  | cons x r =>
    show (some x == some n) = decide (x = n)
    by_cases e : x = n
    · subst e; simp
    · rw [decide_eq_false e]; simpa using e
theorem bv_from {w : World} {A : Option Addr} {c : Nat} {l : Tx} (h : Bv w (.slice A l.length c) l) {k : Nat} (hk : k ≤ l.length) :
    Bv w (.slice (if c = k then A else A.map (·.add (k * 1))) (l.length - k) (c - k)) (l.drop k) := by
  obtain ⟨A', c', e, h1, h2, h3, h4⟩ := h
  injection e with e1 e2 e3
  subst e1
  subst e3
  refine ⟨_, _, by rw [List.length_drop], by rw [List.length_drop]; omega, by omega, by rw [List.length_drop]; omega, fun hn => ?_⟩
  rw [List.length_drop] at hn
  obtain ⟨b, o, rfl, hc⟩ := h4 (by omega)
  refine ⟨b, o + k, ?_, fun j hj => ?_⟩
  · rw [if_neg (by omega)]
    simp [add_adr]
  · rw [List.length_drop] at hj
    have e := hc (k + j) (by omega)
    rw [List.getElem_drop, ← e]
    congr 2
    omega
/-- 's[k:]' -/
theorem cut_from {w : World} {A : Option Addr} {n c : Nat} {l : Tx} (h : Bv w (.slice A n c) l) {k : Nat} (hk : k ≤ l.length) {z : Int} (hz : z = k) :
    ∃ v, Bv w v (l.drop k) ∧ (∀ W, (Instr.slice 22 (.slice A n c) (some (.int .i64 z)) none none).run Tryz.prog W = .ok v W) ∧
      (∀ W, (Instr.sliceAt 22 (.slice A n c) (some (.int .i64 z)) none none).run Tryz.prog W = .ok v W) := by
  obtain rfl : n = l.length := by obtain ⟨A', c', e, _⟩ := h; injection e
  subst hz
  have q : ∀ W, (Instr.slice 22 (.slice A l.length c) (some (.int .i64 (k : Int))) none none).run Tryz.prog W = .ok (.slice (if c = k then A else A.map (·.add (k * 1))) (l.length - k) (c - k)) W := fun W => by go_simp
  exact ⟨_, bv_from h hk, q, fun W => by go_simp⟩
/-- 's[:k:m]' -/
theorem cut_to {w : World} {A : Option Addr} {n c : Nat} {l : Tx} (h : Bv w (.slice A n c) l) {k : Nat} (hk : k ≤ l.length) {m : Nat} (hm : k ≤ m) (hm2 : m ≤ c) :
    Bv w (.slice A k m) (l.take k) := by
  obtain ⟨A', c', e, h1, h2, h3, h4⟩ := h
  injection e with e1 e2 e3
  subst e1
  subst e3
  have hl : (l.take k).length = k := by rw [List.length_take]; omega
  refine ⟨_, _, by rw [hl], by rw [hl]; exact hm, by omega, by omega, fun hn => ?_⟩
  rw [hl] at hn
  obtain ⟨b, o, rfl, hc⟩ := h4 (by omega)
  refine ⟨b, o, rfl, fun j hj => ?_⟩
  rw [hl] at hj
  rw [List.getElem_take]
  exact hc j (by omega)

/-! ### portOf -/
theorem decN_snoc (l : Tx) (x : UInt8) : decN (l ++ [x]) = 10 * decN l + (x.toNat - 48) := by unfold decN; rw [List.foldl_append]; rfl
theorem decN_mono (l r : Tx) : decN l ≤ decN (l ++ r) := by
  unfold decN
  rw [List.foldl_append]
  generalize List.foldl _ 0 l = n
  induction r generalizing n with
  | nil => exact Nat.le_refl _
  | cons x r ih => rw [List.foldl_cons]; exact Nat.le_trans (by omega) (ih _)
def PortPost (l : Tx) (w : World) (e : Ending) (w' : World) : Prop :=
  ∃ (n : Nat) (ok : Bool), e = .returned (.tuple #[.int .i64 n, .bool ok]) ∧ n ≤ 655359 ∧ portS l = (if ok then some n else none) ∧ w = w'
theorem nm_int {c : UInt8} : isNm c = true → 48 ≤ (c.toNat : Int) ∧ (c.toNat : Int) ≤ 57 := by
  intro h
  have e1 : (48 : UInt8).toNat = 48 := rfl
  have e2 : (57 : UInt8).toNat = 57 := rfl
  simp only [isNm, Bool.and_eq_true, decide_eq_true_eq, UInt8.le_iff_toNat_le] at h
  omega
/-! ### hostPort -/
def HPPost (w0 : World) (l : Tx) (w : World) (e : Ending) (w' : World) : Prop :=
  ∃ (v : Value) (n : Nat) (ok : Bool), e = .returned (.tuple #[v, .int .i64 n, .bool ok]) ∧ Dr w w' ∧ (∃ A m c, v = .slice A m c) ∧ n ≤ 655359 ∧ if ok = true then ∃ h, hostPortS l = some (h, n) ∧ Bv w0 v h else hostPortS l = none
theorem ixI_cases (l : Tx) (c : UInt8) : (∃ i : Nat, ixI l c = i ∧ i < l.length ∧ ixOf l c = i) ∨ (ixI l c = -1 ∧ ¬ ixOf l c < l.length) := by
  unfold ixI
  by_cases h : ixOf l c < l.length
  · exact .inl ⟨ixOf l c, by rw [if_pos h], h, rfl⟩
  · exact .inr ⟨by rw [if_neg h], h⟩
end Go.Proofs.YtgpkfocgoigokaaGreatDoor
set_option linter.unusedVariables false
set_option linter.unusedSimpArgs false
namespace Go.Proofs.YtgpkfocgoigokaaGreatDoor
open Go.RowKit

/-! ### isPrinted -/
def pch (c : UInt8) : Bool := 33 ≤ c && c ≤ 126 && c != 60 && c != 62 && c != 34 && c != 44
theorem pch_eq (c : UInt8) : pch c = (decide (33 ≤ (c.toNat : Int)) && decide ((c.toNat : Int) ≤ 126) && !hasB (bs ⟨#[60, 62, 34, 44]⟩) c) := by
  have e1 : (33 : UInt8).toNat = 33 := rfl
  have e2 : (126 : UInt8).toNat = 126 := rfl
  have h1 : decide ((33 : UInt8) ≤ c) = decide (33 ≤ (c.toNat : Int)) := by
    rw [Bool.eq_iff_iff]; simp only [decide_eq_true_eq, UInt8.le_iff_toNat_le]; omega
  have h2 : decide (c ≤ (126 : UInt8)) = decide ((c.toNat : Int) ≤ 126) := by
    rw [Bool.eq_iff_iff]; simp only [decide_eq_true_eq, UInt8.le_iff_toNat_le]; omega
  have h3 : hasB (bs ⟨#[60, 62, 34, 44]⟩) c = (c == 60 || (c == 62 || (c == 34 || (c == 44 || false)))) := rfl
  unfold pch
  rw [h1, h2, h3]
  cases h60 : (c == 60) <;> cases h62 : (c == 62) <;> cases h34 : (c == 34) <;> cases h44 : (c == 44) <;> simp [bne, h60, h62, h34, h44]
/-! ### allValued -/
theorem bv_slice {w : World} {v : Value} {l : Tx} (h : Bv w v l) : ∃ A c, v = .slice A l.length c ∧ l.length ≤ 140737488355328 := by
  obtain ⟨A, c, e, _, _, h4⟩ := h; exact ⟨A, c, e, h4.1⟩
/-! ### append of bytes -/
/-- the cells of bytes -/
def u8s (l : Tx) : List Value := l.map fun c => Value.int .u8 (c.toNat : Int)
/-- a row of bytes of the call's own -/
def OwnB (base : Nat) (w : World) (v : Value) (l : Tx) : Prop := w.ownsRow base 5 1 v l.length (u8s l)
theorem u8_info : ((Tryz.prog).info? 5).map (fun i => (i.zero, i.size, i.bytes)) = some (some (.int .u8 0), 1, 1) := by kernel_rfl
theorem OwnB.nil (base : Nat) (w : World) : OwnB base w (.slice none 0 0) [] := World.ownsRow_nil _ _ _ _
theorem OwnB.le {base : Nat} {w w' : World} {v : Value} {l : Tx} (h : OwnB base w v l) (k : Le w w') : OwnB base w' v l := own_le h k
theorem OwnB.bv {base : Nat} {w : World} {v : Value} {l : Tx} (h : OwnB base w v l) (hl : l.length ≤ 140737488355328) : Bv w v l := by
  have h0 := h
  obtain ⟨_, h2⟩ := h
  rcases h2 with ⟨rfl, hn⟩ | ⟨g, cap, cur, rfl, hg, hh, hle, hm, hs, ht⟩
  · obtain rfl : l = [] := List.eq_nil_of_length_eq_zero hn
    exact Bv.nil w
  · unfold maxLen at hm
    refine ⟨_, _, rfl, hle, hm, hl, fun _ => ⟨g, 0, rfl, fun j hj => ?_⟩⟩
    have := h0.cells (g := g) rfl j (.int .u8 (l[j].toNat : Int)) (by unfold u8s; simp [List.getElem?_eq_getElem hj])
    rw [add_adr] at this
    exact this
theorem OwnB.bt {base : Nat} {w : World} {v : Value} {l : Tx} (h : OwnB base w v l) (hl : l.length ≤ 140737488355328) : Bt base w v l := ⟨h.bv hl, own_row' h⟩
set_option maxRecDepth 4000 in
theorem run_append_bv {w : World} {base : Nat} {v x : Value} {l m : Tx} (hown : OwnB base w v l) (hx : Bv w x m) (hl : l.length + m.length ≤ 140737488355328) (hbase : base ≤ w.heap.size) (ty : TypeId) :
    ∃ v' w', (Builtin.append_ #[22, 22] ty #[v, x]).run Tryz.prog w = .ok v' w' ∧ OwnB base w' v' (l ++ m) ∧ w.grownBy w' v.ownBlock := by
  obtain ⟨i0, hi0, hz0, hz1, hz2⟩ := info_parts u8_info
  obtain ⟨A, c, rfl, h1, h2, h3, h4⟩ := hx
  cases A with
  | none =>
    have hm : m.length = 0 := by
      rcases Nat.eq_zero_or_pos m.length with h | h
      · exact h
      · obtain ⟨_, _, e, _⟩ := h4 h; cases e
    obtain rfl : m = [] := List.eq_nil_of_length_eq_zero hm
    refine ⟨v, w, ?_, by rw [List.append_nil]; exact hown, World.grownBy.refl w _⟩
    rcases hown.2 with ⟨rfl, h5⟩ | ⟨g, cap, cur, rfl, _, _, hnc, _⟩
    · simp [Builtin.append_, run_underlying Tryz.underlying22, sizeOf, typeInfo, hi0, Builtin.lenOf, Builtin.firstCells]
    · simp [Builtin.append_, run_underlying Tryz.underlying22, sizeOf, typeInfo, hi0, Builtin.lenOf, Builtin.firstCells, hnc, storeCells]
  | some ad =>
    obtain ⟨v', w', q, k1, k2, _⟩ := run_append_own (P := Tryz.prog) w base 22 ty 5 i0 (.int .u8 0) 1 1 Tryz.underlying22 hi0 hz0 hz1 hz2 rfl (by decide) v l.length (u8s l) hown ad m.length c (u8s m) (by unfold u8s; simp) (fun j u hu => by
      unfold u8s at hu
      rw [List.getElem?_map] at hu
      have hj : j < m.length := by
        rcases Nat.lt_or_ge j m.length with h | h
        · exact h
        · rw [List.getElem?_eq_none h] at hu; cases hu
      rw [List.getElem?_eq_getElem hj, Option.map_some, Option.some.injEq] at hu
      subst hu
      obtain ⟨b, o, e, hc⟩ := h4 (by omega)
      injection e with e
      subst e
      rw [add_adr]
      exact hc j hj) (fun u hu => by
      unfold u8s at hu
      obtain ⟨_, _, rfl⟩ := List.mem_map.1 hu
      rfl) (by unfold maxLen; omega) (by omega) hbase
    refine ⟨v', w', q, ?_, k2⟩
    unfold OwnB
    rw [List.length_append]
    unfold u8s at k1 ⊢
    rw [List.map_append]
    exact k1
theorem wpList_append_bv {w : World} {ops : Array Oper} {rest : List Oper} {o : Oper} {a : Act} {Q : Exit → Act → World → Prop} (hgd : o.guard = none) (s x : Operand)
    (ho : o.op = .call { callee := .builtin .append, args := #[s, x], argTypes := #[22, 22] }) {base : Nat} {v xv : Value} {l m : Tx} (hs : a.eval s = v) (hx : a.eval x = xv)
    (hown : OwnB base w v l) (hm : Bv w xv m) (hl : l.length + m.length ≤ 140737488355328) (hbase : base ≤ w.heap.size)
    (h : ∀ v' w', OwnB base w' v' (l ++ m) → w.grownBy w' v.ownBlock → wpList Tryz.prog ops Q rest (a.put o.dst v') w') : wpList Tryz.prog ops Q (o :: rest) a w := by
  refine wpList_plain hgd fun K hK => ?_
  obtain ⟨v', w', q, k1, k2⟩ := run_append_bv hown hm hl hbase o.type
  unfold Oper.wp execOp
  simp only [ho, resolve, invoke, builtin, Sem.run_bind, Sem.run_pure, Result.andThen_ok, List.map_toArray, List.map_cons, List.map_nil, hs, hx, q]
  exact hK _ _ (h v' w' k1 k2)
end Go.Proofs.YtgpkfocgoigokaaGreatDoor
set_option linter.unusedVariables false
set_option linter.unusedSimpArgs false
namespace Go.Proofs.YtgpkfocgoigokaaGreatDoor
open Go.RowKit

/-! ### lowered -/
theorem lowC_up {c : UInt8} (h1 : 65 ≤ (c.toNat : Int)) (h2 : (c.toNat : Int) ≤ 90) : ((lowC c).toNat : Int) = (c.toNat : Int) + 32 := by
  have e1 : (65 : UInt8).toNat = 65 := rfl
  have e2 : (90 : UInt8).toNat = 90 := rfl
  have e3 : (32 : UInt8).toNat = 32 := rfl
  have h : (65 ≤ c && c ≤ 90) = true := by simp only [Bool.and_eq_true, decide_eq_true_eq, UInt8.le_iff_toNat_le]; omega
  unfold lowC
  rw [if_pos h, UInt8.toNat_add, e3, Nat.mod_eq_of_lt (by omega)]
  omega
theorem lowC_no {c : UInt8} (h : ¬ (65 ≤ (c.toNat : Int) ∧ (c.toNat : Int) ≤ 90)) : lowC c = c := by
  have e1 : (65 : UInt8).toNat = 65 := rfl
  have e2 : (90 : UInt8).toNat = 90 := rfl
  have h' : ¬ (65 ≤ c && c ≤ 90) = true := by simp only [Bool.and_eq_true, decide_eq_true_eq, UInt8.le_iff_toNat_le]; omega
  unfold lowC
  rw [if_neg h']
/-- a text of which the first k bytes are turned -/
def half (f : UInt8 → UInt8) (l : Tx) (k : Nat) : Tx := (l.take k).map f ++ l.drop k
theorem half_len (f : UInt8 → UInt8) (l : Tx) (k : Nat) : (half f l k).length = l.length := by unfold half; simp only [List.length_append, List.length_map, List.length_take, List.length_drop]; omega
theorem half_at (f : UInt8 → UInt8) {l : Tx} {k : Nat} (h : k < l.length) : (half f l k)[k]? = some l[k] := by
  unfold half
  rw [List.getElem?_append_right (by simp only [List.length_map, List.length_take]; omega)]
  have e : k - ((l.take k).map f).length = 0 := by simp only [List.length_map, List.length_take]; omega
  rw [e, List.getElem?_drop, Nat.add_zero, List.getElem?_eq_getElem h]
theorem half_succ (f : UInt8 → UInt8) {l : Tx} {k : Nat} (h : k < l.length) : half f l (k + 1) = (half f l k).set k (f l[k]) := by
  unfold half
  have e : ((l.take k).map f).length = k := by simp only [List.length_map, List.length_take]; omega
  rw [List.set_append_right _ _ (by omega), e, Nat.sub_self, List.drop_eq_getElem_cons h, List.set_cons_zero, List.take_succ_eq_append_getElem h, List.map_append, List.append_assoc]
  rfl
theorem half_keep (f : UInt8 → UInt8) {l : Tx} {k : Nat} (h : k < l.length) (hf : f l[k] = l[k]) : half f l (k + 1) = half f l k := by
  unfold half
  rw [List.drop_eq_getElem_cons h, List.take_succ_eq_append_getElem h, List.map_append, List.append_assoc, List.map_cons, List.map_nil, hf]
  rfl
theorem half_end (f : UInt8 → UInt8) (l : Tx) {k : Nat} (h : l.length ≤ k) : half f l k = l.map f := by
  unfold half; rw [List.take_of_length_le h, List.drop_eq_nil_of_le h, List.append_nil]
theorem u8s_set (l : Tx) (k : Nat) (c : UInt8) : (u8s l).set k (.int .u8 (c.toNat : Int)) = u8s (l.set k c) := by unfold u8s; rw [List.map_set]
theorem u8s_at {l : Tx} {k : Nat} {c : UInt8} (h : l[k]? = some c) : (u8s l)[k]? = some (.int .u8 (c.toNat : Int)) := by unfold u8s; rw [List.getElem?_map, h]; rfl
def LowPost (l : Tx) (w : World) (e : Ending) (w' : World) : Prop := ∃ v, e = .returned v ∧ OwnB w.heap.size w' v (l.map lowC) ∧ Le w w'
/-! ### parts -/
theorem pcs_at {c : UInt8} (a r : Tx) (h : ∀ x ∈ a, x ≠ c) : pcs c (a ++ c :: r) = a :: pcs c r := by
  induction a with
  | nil => show pcs c (c :: r) = _; rw [pcs, if_pos rfl]
  | cons x t ih =>
    show pcs c (x :: (t ++ c :: r)) = _
    rw [pcs, if_neg (h x (by simp)), ih fun y hy => h y (by simp [hy])]
theorem pcs_no {c : UInt8} {a : Tx} (h : ∀ x ∈ a, x ≠ c) : pcs c a = [a] := by
  induction a with
  | nil => rfl
  | cons x t ih => rw [pcs, if_neg (h x (by simp)), ih fun y hy => h y (by simp [hy])]
theorem ixOf_split' {l : Tx} {c : UInt8} (h : ixOf l c < l.length) : l = l.take (ixOf l c) ++ c :: l.drop (ixOf l c + 1) ∧ ∀ x ∈ l.take (ixOf l c), x ≠ c := by
  have h0 : l[ixOf l c] = c := by
    have := List.findIdx_getElem (xs := l) (p := (· == c)) (w := h)
    exact eq_of_beq this
  constructor
  · have e := (List.take_append_drop (ixOf l c) l).symm
    rw [List.drop_eq_getElem_cons h, h0] at e
    exact e
  · intro x hx
    obtain ⟨i, hi, e⟩ := List.mem_take_iff_getElem.1 hx
    have := List.not_of_lt_findIdx (xs := l) (p := (· == c)) (i := i) (by unfold ixOf at hi; omega)
    rw [e] at this
    simpa using this
theorem ixOf_none' {l : Tx} {c : UInt8} (h : ¬ ixOf l c < l.length) : ∀ x ∈ l, x ≠ c := by
  have h1 : l.findIdx (· == c) = l.length := by
    have := List.findIdx_le_length (xs := l) (p := (· == c))
    unfold ixOf at h
    omega
  rw [List.findIdx_eq_length] at h1
  intro x hx
  simpa using h1 x hx
/-- a slice of texts that reads as ls: its cells in w, the texts in w0 -/
def Sl (w0 w : World) (v : Value) (ls : List Tx) : Prop :=
  ∃ A c, v = .slice A ls.length c ∧ ls.length ≤ c ∧ c ≤ 9223372036854775807 ∧ ls.length ≤ 1099511627776 ∧
    (0 < ls.length → ∃ g o, A = some ⟨g, o, none⟩ ∧ ∀ j (h : j < ls.length), ∃ x, w.cell? ⟨g, o + j, none⟩ = some x ∧ Bv w0 x ls[j])
theorem Sl.at_ {w0 w : World} {A : Option Addr} {n c : Nat} {ls : List Tx} (h : Sl w0 w (.slice A n c) ls) {k : Nat} (hk : k < ls.length) :
    ∃ g o, A = some ⟨g, o, none⟩ ∧ ∃ x, w.cell? ⟨g, o + k, none⟩ = some x ∧ Hid (Bv w0 x ls[k]) := by
  obtain ⟨A', c', e, h1, h2, h3, h4⟩ := h
  injection e with e1 e2 e3
  subst e1
  obtain ⟨g, o, rfl, hc⟩ := h4 (by omega)
  obtain ⟨x, hx, hb⟩ := hc k hk
  exact ⟨g, o, rfl, x, hx, Lib.hid hb⟩
/-- values that read as texts -/
def BAll (w : World) (xs : List Value) (ls : List Tx) : Prop := xs.length = ls.length ∧ ∀ j (h : j < ls.length), ∃ x, xs[j]? = some x ∧ Bv w x ls[j]
theorem BAll.nil (w : World) : BAll w [] [] := ⟨rfl, fun j h => by simp at h⟩
theorem BAll.snoc {w : World} {xs : List Value} {ls : List Tx} (h : BAll w xs ls) {x : Value} {l : Tx} (hx : Bv w x l) : BAll w (xs ++ [x]) (ls ++ [l]) := by
  refine ⟨by simp [h.1], fun j hj => ?_⟩
  by_cases hlt : j < ls.length
  · obtain ⟨y, e1, e2⟩ := h.2 j hlt
    exact ⟨y, by rw [List.getElem?_append_left (by rw [h.1]; exact hlt)]; exact e1, by rw [List.getElem_append_left hlt]; exact e2⟩
  · simp only [List.length_append, List.length_cons, List.length_nil] at hj
    obtain rfl : j = ls.length := by omega
    exact ⟨x, by rw [List.getElem?_append_right (by rw [h.1]; exact Nat.le_refl _), h.1, Nat.sub_self]; rfl, by simpa using hx⟩
theorem Sl.of_row {w w0 : World} {base : Nat} {E : TypeId} {v : Value} {xs : List Value} {ls : List Tx} (h : w.ownsRow base E 1 v ls.length xs) (k : BAll w0 xs ls) (hl : ls.length ≤ 1099511627776) : Sl w0 w v ls := by
  have h0 := h
  obtain ⟨_, h2⟩ := h
  rcases h2 with ⟨rfl, hn⟩ | ⟨g, cap, cur, rfl, hg, hh, hle', hm, hs, ht⟩
  · obtain rfl : ls = [] := List.eq_nil_of_length_eq_zero hn
    exact ⟨none, 0, rfl, by simp, by simp, by simp, fun h => by simp at h⟩
  · unfold maxLen at hm
    refine ⟨_, _, rfl, hle', hm, hl, fun _ => ⟨g, 0, rfl, fun j hj => ?_⟩⟩
    obtain ⟨x, e1, e2⟩ := k.2 j hj
    have := h0.cells (g := g) rfl j x e1
    rw [add_adr] at this
    exact ⟨x, this, e2⟩
theorem bs_info : ((Tryz.prog).info? 22).map (fun i => (i.zero, i.size, i.bytes)) = some (some (.slice none 0 0), 1, 24) := by kernel_rfl
theorem pcs_len (c : UInt8) (l : Tx) : (pcs c l).length ≤ l.length + 1 := by
  induction l with
  | nil => simp [pcs]
  | cons x r ih =>
    rw [pcs]
    split
    · simp only [List.length_cons]; omega
    · split
      · simp
      · rename_i e
        rw [e] at ih
        simp only [List.length_cons] at ih ⊢
        omega
def PartsPost (w0 : World) (l : Tx) (c : UInt8) (w : World) (e : Ending) (w' : World) : Prop := ∃ v, e = .returned v ∧ Sl w0 w' v (pcs c l) ∧ Le w w'
end Go.Proofs.YtgpkfocgoigokaaGreatDoor
