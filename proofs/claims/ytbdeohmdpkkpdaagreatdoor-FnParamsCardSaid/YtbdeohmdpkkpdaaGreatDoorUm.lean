/- Plain: the reader of parameters, step by step. -/
import Derived.Test.YtbdeohmdpkkpdaaGreatDoorPar
set_option linter.unusedVariables false
set_option linter.unusedSimpArgs false
namespace Go.Proofs.YtbdeohmdpkkpdaaGreatDoor
open Go.RowKit

/-- what comes from place i on -/
def umR (l : Tx) (sp en : UInt8) (i : Nat) (m : UM) : Nat × UM := umGo l sp en (l.length + 1 - i) i m
theorem umR_end {l : Tx} {sp en : UInt8} {i : Nat} {m : UM} (h : l.length = i) : umR l sp en i m = (l.length, m) := by
  subst h
  unfold umR
  rw [show l.length + 1 - l.length = 0 + 1 from by omega]
  simp only [umGo, dif_neg (Nat.lt_irrefl _)]
theorem umR_hit {l : Tx} {sp en : UInt8} {i : Nat} {m : UM} (h : i < l.length) (he : l[i] = en) : umR l sp en i m = (i, m) := by
  unfold umR
  obtain ⟨n, hn⟩ : ∃ n, l.length + 1 - i = n + 1 := ⟨l.length - i, by omega⟩
  rw [hn]
  simp only [umGo, dif_pos h, if_pos he]
theorem umR_step {l : Tx} {sp en : UInt8} {i : Nat} {m : UM} (h : i < l.length) (he : l[i] ≠ en) : umR l sp en i m = umR l sp en (i + 1) (umStep l sp i l[i] m) := by
  unfold umR
  rw [show l.length + 1 - i = (l.length + 1 - (i + 1)) + 1 from by omega]
  simp only [umGo, dif_pos h, if_neg he]
theorem ne_hi {x y : UInt8} (h : 128 ≤ x.toNat) (hy : y.toNat < 128) : x ≠ y := by rintro rfl; omega
theorem umStep_1 {l : Tx} {sp : UInt8} {i : Nat} {x : UInt8} {m : UM} (h : m.state = 1) : umStep l sp i x m = { m with sep := 0, start := i, state := 2 } := by unfold umStep; simp [h]
theorem umStep_2 {l : Tx} {sp : UInt8} {i : Nat} {x : UInt8} {m : UM} (h : m.state = 2) : umStep l sp i x m = if x = sp then { m with acc := addKV m.acc (sub l m.start i) [], state := 1 } else if x = 61 then { m with sep := i, state := 3 } else m := by unfold umStep; simp [h]
theorem umStep_3 {l : Tx} {sp : UInt8} {i : Nat} {x : UInt8} {m : UM} (h : m.state = 3) : umStep l sp i x m = if x = 34 then { m with state := 4, quote := i } else if x = sp then { m with acc := addKV m.acc (sub l m.start m.sep) (sub l (m.sep + 1) i), start := m.sep + 1, state := 1 } else m := by unfold umStep; simp [h]
theorem umStep_4 {l : Tx} {sp : UInt8} {i : Nat} {x : UInt8} {m : UM} (h : m.state = 4) : umStep l sp i x m = if x = 34 then { m with acc := addKV m.acc (l.drop m.start) (sub l (m.quote.toNat + 1) i), state := 1 } else m := by unfold umStep; simp [h]
theorem umStep_hi {l : Tx} {sp : UInt8} {i : Nat} {x : UInt8} {m : UM} (h : 128 ≤ x.toNat) (hs : sp.toNat < 128) (h1 : m.state ≠ 1) : umStep l sp i x m = m := by
  have a := ne_hi h hs
  have b := ne_hi (y := 61) h (by decide)
  have c := ne_hi (y := 34) h (by decide)
  unfold umStep
  split <;> simp_all
/-- a rune beyond ASCII -/
theorem umR_rune {l : Tx} {sp en : UInt8} (hs : sp.toNat < 128) (hn : en.toNat < 128) {i d : Nat} {m : UM} (hd : 1 ≤ d) (hk : i + d ≤ l.length)
    (h : ∀ j (hj : j < l.length), i ≤ j → j < i + d → 128 ≤ l[j].toNat) :
    umR l sp en i m = umR l sp en (i + d) (if m.state = 1 then { m with sep := 0, start := i, state := 2 } else m) := by
  have h0 := h i (by omega) (by omega) (by omega)
  have e0 : umStep l sp i (l[i]'(by omega)) m = if m.state = 1 then { m with sep := 0, start := i, state := 2 } else m := by
    by_cases h1 : m.state = 1
    · rw [if_pos h1]; exact umStep_1 h1
    · rw [if_neg h1]; exact umStep_hi h0 hs h1
  rw [umR_step (by omega) (ne_hi h0 hn), e0]
  generalize hm : (if m.state = 1 then { m with sep := 0, start := i, state := 2 } else m : UM) = m1
  have h1 : m1.state ≠ 1 := by
    rw [← hm]; split
    · simp
    · assumption
  clear e0 hm h0
  induction d with
  | zero => omega
  | succ d ih =>
    by_cases hd0 : d = 0
    · subst hd0; rfl
    · rw [ih (by omega) (by omega) (fun j hj a b => h j hj a (by omega))]
      have h2 := h (i + d) (by omega) (by omega) (by omega)
      rw [umR_step (by omega) (ne_hi h2 hn), umStep_hi h2 hs h1]
      rfl
/-- what holds at place i -/
structure UI (i : Nat) (m : UM) : Prop where
  st : m.state = 1 ∨ m.state = 2 ∨ m.state = 3 ∨ m.state = 4
  le : m.start ≤ i
  s3 : m.state = 3 → m.start ≤ m.sep ∧ m.sep < i
  s4 : m.state = 4 → 0 ≤ m.quote ∧ m.quote < i
  sep : 0 < m.sep → m.sep < i
theorem UI.mono {i j : Nat} {m : UM} (h : UI i m) (k : i ≤ j) : UI j m :=
  ⟨h.st, Nat.le_trans h.le k, fun e => ⟨(h.s3 e).1, Nat.lt_of_lt_of_le (h.s3 e).2 k⟩, fun e => ⟨(h.s4 e).1, by have := (h.s4 e).2; omega⟩, fun e => Nat.lt_of_lt_of_le (h.sep e) k⟩
/-- no more than N of them, none too large -/
def KSm (N : Nat) (l : KVs) : Prop := l.length ≤ N ∧ ∀ x ∈ l, x.1.length ≤ 1099511627776 ∧ x.2.length ≤ 1099511627776
theorem KSm.mono {N M : Nat} {l : KVs} (h : KSm N l) (k : N ≤ M) : KSm M l := ⟨Nat.le_trans h.1 k, h.2⟩
theorem addKV_length (l : KVs) (k v : Tx) : (addKV l k v).length ≤ l.length + 1 := by
  induction l with
  | nil => simp [addKV]
  | cons x r ih => unfold addKV; split <;> simp <;> omega
theorem addKV_mem {l : KVs} {k v : Tx} {x : Tx × Tx} (h : x ∈ addKV l k v) : x ∈ l ∨ x = (k, v) := by
  induction l with
  | nil => exact .inr (by simpa [addKV] using h)
  | cons y r ih =>
    unfold addKV at h
    split at h
    · rcases List.mem_cons.1 h with h | h
      · exact .inr h
      · exact .inl (List.mem_cons_of_mem _ h)
    · rcases List.mem_cons.1 h with h | h
      · exact .inl (by rw [h]; exact List.mem_cons_self)
      · rcases ih h with h | h
        · exact .inl (List.mem_cons_of_mem _ h)
        · exact .inr h
theorem KSm.add {N : Nat} {l : KVs} (h : KSm N l) {k v : Tx} (hk : k.length ≤ 1099511627776) (hv : v.length ≤ 1099511627776) : KSm (N + 1) (addKV l k v) :=
  ⟨Nat.le_trans (addKV_length l k v) (by have := h.1; omega), fun x hx => by
    rcases addKV_mem hx with h' | rfl
    · exact h.2 x h'
    · exact ⟨hk, hv⟩⟩
theorem sub_len (l : Tx) (a b : Nat) : (sub l a b).length ≤ l.length := by unfold sub; simp only [List.length_drop, List.length_take]; omega
theorem ext_sub (s : ByteArray) (a b : Nat) : s.extract a b = st (sub (bs s) a b) := ext_st s a b

/-! ### memory -/
theorem PAt.kept {w w' : World} {base b o : Nat} {T : TypeId} {cs : Array Value} {l : KVs} (h : PAt w base b o T cs l) {row : Option Nat} (hg : w.grownBy w' row) (hb : row ≠ some b)
    (hr : ∀ g c fz, row = some g → w.heap[g]? ≠ some (.cells c 164 fz)) : PAt w' base b o T cs l := by
  obtain ⟨v, h1, h2, h3⟩ := h
  refine ⟨v, h1, (hg.block b (lt_of_heap h2) (fun e => hb e.symm)).trans h2, h3.kept hg ?_⟩
  cases hv : v.ownBlock with
  | none => exact .inl rfl
  | some g =>
    right
    intro e
    obtain ⟨_, c, fz, hc⟩ := own_row h3 g hv
    exact hr g c fz e.symm hc
theorem grown_iterAt (w : World) (k : Nat) (s : ByteArray) (p : Nat) : w.grownBy (w.iterAt k s p) (some k) :=
  ⟨rfl, rfl, rfl, by simp [World.iterAt], fun i _ hne => Lib.iterAt_other w k i s p (fun e => hne (by rw [e]))⟩
theorem PAt.iterAt {w : World} {base b o : Nat} {T : TypeId} {cs : Array Value} {l : KVs} (h : PAt w base b o T cs l) {k : Nat} {s : ByteArray} {p : Nat} (hk : w.heap[k]? = some (.stringIter s p)) (q : Nat) : PAt (w.iterAt k s q) base b o T cs l := by
  refine h.kept (grown_iterAt w k s q) ?_ ?_
  · rintro e
    injection e with e
    subst e
    obtain ⟨v, _, h2, _⟩ := h
    rw [hk] at h2
    cases h2
  · rintro g c fz e hc
    injection e with e
    subst e
    rw [hk] at hc
    cases hc
theorem PAt.le {w w' : World} {base b o : Nat} {T : TypeId} {cs : Array Value} {l : KVs} (h : PAt w base b o T cs l) (k : Le w w') : PAt w' base b o T cs l :=
  h.kept (row := none) ⟨k.os, k.tape, k.output, k.size, fun i hi _ => k.block i hi⟩ (by simp) (by simp)
theorem PFr.iterAt {base b : Nat} {u v : World} (h : PFr base b u v) {k : Nat} (hk : u.heap.size ≤ k) (hb : base ≤ u.heap.size) (s : ByteArray) (p : Nat) : PFr base b u (v.iterAt k s p) :=
  ⟨h.os, h.tape, h.output, by simpa [World.iterAt] using h.size, fun i hi hne => (Lib.iterAt_other v k i s p (by omega)).trans (h.low i hi hne),
    fun i o hi hb ho => (Lib.iterAt_other v k i s p (by have := lt_of_heap hi; omega)).trans (h.oth i o hi hb ho)⟩
/-- the slice at cell o of block b, whatever it is, is one of the call's own, and reads as l -/
def PAx (w : World) (base b o : Nat) (T : TypeId) (cs : Array Value) (l : KVs) : Prop := ∃ v, PAt w base b o T (cs.setIfInBounds o v) l
theorem set_set {cs : Array Value} {o : Nat} {v v' : Value} : (cs.setIfInBounds o v).setIfInBounds o v' = cs.setIfInBounds o v' := by
  apply Array.ext
  · simp
  · intro j h1 h2
    rw [Array.getElem_setIfInBounds, Array.getElem_setIfInBounds, Array.getElem_setIfInBounds] <;> simp_all
theorem AddPost.ax {base b o : Nat} {T : TypeId} {cs : Array Value} {v : Value} {l : KVs} {w w' : World} {e : Ending} (h : AddPost base b o T (cs.setIfInBounds o v) l w e w') :
    ∃ v', e = .returned v' ∧ PAx w' base b o T cs l ∧ PFr base b w w' := by
  obtain ⟨v', h1, h2, h3⟩ := h
  rw [set_set] at h2
  exact ⟨v', h1, ⟨v', h2⟩, h3⟩
theorem PAx.of {w : World} {base b o : Nat} {T : TypeId} {cs : Array Value} {l : KVs} (h : PAt w base b o T cs l) : PAx w base b o T cs l := by
  obtain ⟨v, h1, h2, h3⟩ := h
  refine ⟨v, v, by rw [Array.getElem?_setIfInBounds_self_of_lt (by exact (Array.getElem?_eq_some_iff.1 h1).1)], ?_, h3⟩
  have : cs.setIfInBounds o v = cs := by
    apply Array.ext
    · simp
    · intro j h1' h2'
      rw [Array.getElem_setIfInBounds]
      split
      · rename_i e
        subst e
        rw [Array.getElem?_eq_getElem h2'] at h1
        exact (Option.some.inj h1).symm
      · rfl
  rw [this]
  exact h2
theorem PAx.add {w : World} {base b o : Nat} {T : TypeId} {cs : Array Value} {l : KVs} (h : PAx w base b o T cs l) (hT : T ≠ 164) (hbase : base ≤ w.heap.size) {N : Nat} (hl : KSm N l) (hN : N ≤ 1099511627775) (k v : Tx) :
    Calls Tryz.prog 85 #[.pointer (some ⟨b, o, none⟩), .string (st k), .string (st v)] w (fun e w' => ∃ v', e = .returned v' ∧ PAx w' base b o T cs (addKV l k v) ∧ PFr base b w w') := by
  obtain ⟨x, h⟩ := h
  exact (add_c base b o T _ l k v w h hT hbase (Nat.le_trans hl.1 hN) hl.2).mono fun e w' hp => hp.ax
theorem PAx.le {w w' : World} {base b o : Nat} {T : TypeId} {cs : Array Value} {l : KVs} (h : PAx w base b o T cs l) (k : Le w w') : PAx w' base b o T cs l := by obtain ⟨v, h⟩ := h; exact ⟨v, h.le k⟩
theorem PAx.iterAt {w : World} {base b o : Nat} {T : TypeId} {cs : Array Value} {l : KVs} (h : PAx w base b o T cs l) {k : Nat} {s : ByteArray} {p : Nat} (hk : w.heap[k]? = some (.stringIter s p)) (q : Nat) : PAx (w.iterAt k s q) base b o T cs l := by
  obtain ⟨v, h⟩ := h; exact ⟨v, h.iterAt hk q⟩
theorem PAx.lt {w : World} {base b o : Nat} {T : TypeId} {cs : Array Value} {l : KVs} (h : PAx w base b o T cs l) : b < w.heap.size := by obtain ⟨v, x, _, h, _⟩ := h; exact lt_of_heap h
theorem PAx.ne {w : World} {base b o : Nat} {T : TypeId} {cs : Array Value} {l : KVs} (h : PAx w base b o T cs l) {k : Nat} {s : ByteArray} {p : Nat} (hk : w.heap[k]? = some (.stringIter s p)) : k ≠ b := by
  rintro rfl; obtain ⟨v, x, _, h, _⟩ := h; rw [hk] at h; cases h
theorem PFr.iter {base b : Nat} {u v : World} (h : PFr base b u v) {k : Nat} {s : ByteArray} {p : Nat} (hk : u.heap[k]? = some (.stringIter s p)) (hb : k ≠ b) : v.heap[k]? = some (.stringIter s p) :=
  h.oth k _ hk (fun e => hb (by injection e)) (fun c fz e => by cases e)
end Go.Proofs.YtbdeohmdpkkpdaaGreatDoor
