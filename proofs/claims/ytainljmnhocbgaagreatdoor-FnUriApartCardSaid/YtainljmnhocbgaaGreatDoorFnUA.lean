/- The rule of XGrow for regions with guards, where each guard's value is known (printed by gen_grow2.py). No statement of the program stands here. Contract: the law FnUriApart (printed by gen_uap.py). -/
import Derived.Test.YtainljmnhocbgaaGreatDoorHead
import Derived.Test.YtainljmnhocbgaaGreatDoorFnUB
set_option linter.unusedVariables false
set_option linter.unusedSimpArgs false
namespace Go.Proofs.YtainljmnhocbgaaGreatDoor.G2
open Go.RowKit

section
variable {P : Program} {ops : Array Oper} {md : Region.Mode} {Q : Exit → Act → World → Prop}
def apartB (ops : Array Oper) (n : Nat) : Bool :=
  ((List.range ops.size).all fun i => (List.range ops.size).all fun j => i == j ||
    match ops[i]?, ops[j]? with
    | some x, some y => x.dst == none || x.dst != y.dst
    | _, _ => true) &&
  ops.all (fun o => match o.dst with | some t => decide (t < n) | none => true) &&
  ops.all fun o => (o.op.operands.toList.filterMap tmpOf).all fun t => decide (t < n)

theorem apartB_ne {n : Nat} (h : apartB ops n = true) {i j : Nat} {x y : Oper} (hx : ops[i]? = some x) (hy : ops[j]? = some y) (hne : i ≠ j) : x.dst = none ∨ x.dst ≠ y.dst := by
  unfold apartB at h
  simp only [Bool.and_eq_true] at h
  have h1 := List.all_eq_true.1 h.1.1 i (List.mem_range.2 (Array.getElem?_eq_some_iff.1 hx).1)
  have h2 := List.all_eq_true.1 h1 j (List.mem_range.2 (Array.getElem?_eq_some_iff.1 hy).1)
  simp only [hx, hy, Bool.or_eq_true, beq_iff_eq, bne_iff_ne] at h2
  rcases h2 with h2 | h2
  · exact (hne h2).elim
  · exact h2
theorem apartB_lt {n : Nat} (h : apartB ops n = true) {i : Nat} {x : Oper} (hx : ops[i]? = some x) {t : Nat} (ht : x.dst = some t) : t < n := by
  unfold apartB at h
  simp only [Bool.and_eq_true] at h
  have h1 := (Array.all_eq_true_iff_forall_mem.1 h.1.2) x (by obtain ⟨hlt, e⟩ := Array.getElem?_eq_some_iff.1 hx; rw [← e]; exact Array.getElem_mem hlt)
  simp only [ht, decide_eq_true_eq] at h1
  exact h1
theorem apartB_op {n : Nat} (h : apartB ops n = true) {i : Nat} {x : Oper} (hx : ops[i]? = some x) {t : Nat} (ht : Operand.tmp t ∈ x.op.operands) : t < n := by
  unfold apartB at h
  simp only [Bool.and_eq_true] at h
  have h1 := (Array.all_eq_true_iff_forall_mem.1 h.2) x (by obtain ⟨hlt, e⟩ := Array.getElem?_eq_some_iff.1 hx; rw [← e]; exact Array.getElem_mem hlt)
  have h2 := List.all_eq_true.1 h1 t (List.mem_filterMap.2 ⟨.tmp t, by simpa using ht, rfl⟩)
  exact of_decide_eq_true h2
/-- the guard's value is known: the operation is wanted, or not -/
def GuardIs (md : Region.Mode) (ops : Array Oper) (S : Nat → Value → World → Prop) (G : World → Prop) (o : Oper) (c : Bool) : Prop :=
  ∃ j b oj tj, o.guard = some (j, b) ∧ ops[j]? = some oj ∧ oj.dst = some tj ∧ (o.after.any fun e => e.on == j && Region.binds md e) = true ∧
    ∀ v w, G w → S tj v w → (match v with | .bool x => x == b | _ => false) = c
def GrowStepG (P : Program) (md : Region.Mode) (ops : Array Oper) (S : Nat → Value → World → Prop) (Z : Nat → World → Prop) (G : World → Prop) (Q : Exit → Act → World → Prop) (i : Nat) (o : Oper) : Prop :=
  (GrowStep P S Z G Q i o ∧ (o.guard = none ∨ GuardIs md ops S G o true)) ∨ (GuardIs md ops S G o false ∧ ∀ w, G w → SAt S Z i o.dst undef w)
theorem GrowStepG.free {S : Nat → Value → World → Prop} {Z : Nat → World → Prop} {G : World → Prop} {i : Nat} {o : Oper} (h : GrowStep P S Z G Q i o) (hg : o.guard = none) : GrowStepG P md ops S Z G Q i o := .inl ⟨h, .inl hg⟩
theorem wanted_of {S : Nat → Value → World → Prop} {Z : Nat → World → Prop} {G : World → Prop} {n : Nat} (ha : apartB ops n = true) {o : Oper} {c : Bool} (hg : GuardIs md ops S G o c) {listed : Array Bool} {a0 a : Act} {w : World} (h : GrowInv ops S Z G n a0 listed a w)
    (hall : ∀ e ∈ o.after, Region.binds md e = true → listed.getD e.on false = true) : Region.wanted o (yielded ops a.tmps) = c := by
  obtain ⟨j, b, oj, tj, h1, h2, h3, h4, h5⟩ := hg
  simp only [Array.any_eq_true', Bool.and_eq_true, beq_iff_eq] at h4
  obtain ⟨e, he, e1, e2⟩ := h4
  have hl := hall e he e2
  rw [e1] at hl
  have hn := h.new j oj h2 hl
  unfold oval at hn
  rw [h3] at hn
  have hn : S tj (a.eval (.tmp tj)) w := hn
  have hc := h5 _ _ h.g hn
  have hlt : tj < a.tmps.size := by rw [h.sz]; exact apartB_lt ha h2 h3
  have hev : a.eval (.tmp tj) = a.tmps[tj] := by simp [Act.eval, Array.getElem?_eq_getElem hlt]
  rw [hev] at hc
  unfold Region.wanted yielded
  simp only [h1, h2, h3, Option.bind_some, Array.getElem?_eq_getElem hlt]
  generalize a.tmps[tj] = v at hc
  cases v <;> simp_all
theorem grow_step {S : Nat → Value → World → Prop} {Z : Nat → World → Prop} {G : World → Prop} {n i : Nat} (hd : depsB md ops = true) (ha : apartB ops n = true) {o : Oper} (ho : ops[i]? = some o) (hs : GrowStepG P md ops S Z G Q i o)
    {listed : Array Bool} {a0 a : Act} {w : World} (h : GrowInv ops S Z G n a0 listed a w) (hr : i ∈ Region.ready md ops listed) : wpOp P ops Q i (GrowInv ops S Z G n a0 (listed.setIfInBounds i true)) a w := by
  obtain ⟨hun, o', ho', hall⟩ := mem_ready.1 hr
  obtain rfl : o' = o := Option.some.inj (ho'.symm.trans ho)
  have key : ∀ a' w', (∃ v, a' = a.put o'.dst v ∧ G w' ∧ (∀ t u, o'.dst ≠ some t → S t u w → S t u w') ∧ (∀ j, j ≠ i → Z j w → Z j w') ∧ SAt S Z i o'.dst v w') → GrowInv ops S Z G n a0 (listed.setIfInBounds i true) a' w' := by
    rintro a' w' ⟨v, rfl, hg, hS, hZ, hv⟩
    refine ⟨hg, (put_defers' _ _ _).trans h.d, (put_size _ _ _).trans h.sz, fun t ht hno => ?_, fun t hno => ?_, fun j oj hj hl => ?_⟩
    · have hne : o'.dst ≠ some t := hno i o' ho
      rw [eval_put_ne v hne]
      exact hS t _ hne (h.old t ht hno)
    · have hilt : i < listed.size := by
        rcases Nat.lt_or_ge i listed.size with h' | h'
        · exact h'
        · rw [Array.getD_eq_getD_getElem?, Array.getElem?_eq_none h'] at hun; simp at hun
      have hne : o'.dst ≠ some t := hno i o' ho (by rw [Array.getD_eq_getD_getElem?, Array.getElem?_setIfInBounds_self_of_lt hilt]; rfl)
      rw [eval_put_ne v hne]
      refine h.un t fun j oj hj hl => hno j oj hj ?_
      by_cases hij : i = j
      · subst hij; rw [Array.getD_eq_getD_getElem?, Array.getElem?_setIfInBounds_self_of_lt hilt]; rfl
      · rw [getD_set_ne false hij]; exact hl
    · by_cases hij : i = j
      · subst hij
        obtain rfl : oj = o' := Option.some.inj (hj.symm.trans ho)
        unfold oval
        cases hdd : oj.dst with
        | none => rw [hdd] at hv; exact hv
        | some t =>
          dsimp only
          rw [eval_put_same v (by rw [h.sz]; exact apartB_lt ha ho hdd)]
          rw [hdd] at hv
          exact hv
      · have hl' : listed.getD j false = true := by rw [getD_set_ne false hij] at hl; exact hl
        have hne := apartB_ne ha ho hj hij
        have hold := h.new j oj hj hl'
        cases hdj : oj.dst with
        | none =>
          rw [hdj] at hold
          exact hZ j (fun e => hij e.symm) hold
        | some t =>
          rw [hdj] at hold hne
          unfold oval at hold ⊢
          rw [hdj] at hold ⊢
          have hnt : o'.dst ≠ some t := by rcases hne with h | h; · rw [h]; simp
                                           · exact h
          dsimp only
          rw [eval_put_ne v hnt]
          exact hS t _ hnt hold
  rcases hs with ⟨hs, hgd⟩ | ⟨hgd, hu⟩
  · have hw : Region.wanted o' (yielded ops a.tmps) = true := by
      rcases hgd with hgd | hgd
      · unfold Region.wanted; rw [hgd]
      · exact wanted_of ha hgd h hall
    unfold wpOp
    simp only [ho, hw, if_true]
    left
    refine Oper.wp_mono key (hs a w h.g fun t ht => ?_)
    by_cases hw2 : ∃ (j : Nat) (oj : Oper), ops[j]? = some oj ∧ oj.dst = some t
    · obtain ⟨j, oj, hj, hdj⟩ := hw2
      obtain ⟨e, he, heon, hb⟩ := depsB_spec hd ho ht hj hdj
      have hlj := hall e he hb
      rw [heon] at hlj
      have hnew := h.new j oj hj hlj
      unfold oval at hnew
      rw [hdj] at hnew
      exact hnew
    · exact h.old t (apartB_op ha ho ht) fun j oj hj hdj => hw2 ⟨j, oj, hj, hdj⟩
  · have hw : Region.wanted o' (yielded ops a.tmps) = false := wanted_of ha hgd h hall
    unfold wpOp
    simp only [ho, hw]
    exact key _ _ ⟨undef, rfl, h.g, fun _ _ _ hs => hs, fun _ _ hz => hz, hu w h.g⟩
theorem grow_any' {S : Nat → Value → World → Prop} {Z : Nat → World → Prop} {G : World → Prop} {n : Nat} {a0 : Act} (hd : depsB md ops = true) (ha : apartB ops n = true) (hs : ∀ (i : Nat) (o : Oper), ops[i]? = some o → GrowStepG P md ops S Z G Q i o)
    (hdone : ∀ listed a w, listed.size = ops.size → GrowInv ops S Z G n a0 listed a w → Region.ready md ops listed = [] → Q .normal a w) :
    ∀ (f : Nat) (listed : Array Bool) (a : Act) (w : World), listed.size = ops.size → listed.toList.count false ≤ f → GrowInv ops S Z G n a0 listed a w → wpAny P md ops Q f listed a w := by
  intro f
  induction f with
  | zero =>
    intro listed a w hz hc h
    have hr : Region.ready md ops listed = [] := by
      apply List.eq_nil_iff_forall_not_mem.2
      intro i hi
      obtain ⟨hun, o, ho, _⟩ := mem_ready.1 hi
      have hlt : i < listed.size := by rw [hz]; exact (Array.getElem?_eq_some_iff.1 ho).1
      have hm : false ∈ listed.toList := by
        rw [Array.getD_eq_getD_getElem?, Array.getElem?_eq_getElem hlt] at hun
        simp only [Option.getD_some] at hun
        rw [← hun]
        exact Array.getElem_mem_toList hlt
      have := List.count_pos_iff.2 hm
      omega
    exact ⟨hr, hdone _ _ _ hz h hr⟩
  | succ f ih =>
    intro listed a w hz hc h
    refine ⟨fun hr => hdone _ _ _ hz h hr, fun i hi => ?_⟩
    obtain ⟨hun, o, ho, _⟩ := mem_ready.1 hi
    have hlt : i < listed.size := by rw [hz]; exact (Array.getElem?_eq_some_iff.1 ho).1
    have hm : listed[i] = false := by
      rw [Array.getD_eq_getD_getElem?, Array.getElem?_eq_getElem hlt] at hun
      simpa using hun
    refine wpOp_mono (fun a' w' h' => ih _ a' w' (by simpa using hz) ?_ h') (grow_step hd ha ho (hs i o ho) h hi)
    rw [Array.setIfInBounds_def, dif_pos hlt, Array.toList_set, List.count_set (by simpa using hlt)]
    have hpos : 0 < listed.toList.count false := List.count_pos_iff.2 (by rw [← hm]; exact Array.getElem_mem_toList hlt)
    simp only [Array.getElem_toList, hm]
    simpa using hc
def GrowAllG (P : Program) (md : Region.Mode) (ops : Array Oper) (S : Nat → Value → World → Prop) (Z : Nat → World → Prop) (G : World → Prop) (Q : Exit → Act → World → Prop) : Nat → List Oper → Prop
  | _, [] => True
  | k, o :: r => GrowStepG P md ops S Z G Q k o ∧ GrowAllG P md ops S Z G Q (k + 1) r
theorem GrowAllG.at {S : Nat → Value → World → Prop} {Z : Nat → World → Prop} {G : World → Prop} : ∀ {l : List Oper} {k : Nat}, GrowAllG P md ops S Z G Q k l → ∀ (i : Nat) (o : Oper), l[i]? = some o → GrowStepG P md ops S Z G Q (k + i) o
  | [], _, _, i, o, h => by simp at h
  | x :: r, k, ⟨h1, h2⟩, 0, o, h => by simp at h; subst h; exact h1
  | x :: r, k, ⟨h1, h2⟩, i + 1, o, h => by
    have := GrowAllG.at h2 i o (by simpa using h)
    rw [show k + (i + 1) = k + 1 + i from by omega]
    exact this
theorem wp_region_grow_put {id : Nat} {l : List Oper} {a : Act} {w : World} (S : Nat → Value → World → Prop) (Z : Nat → World → Prop) (G : World → Prop) (n : Nat) (ds : List Nat)
    (hm : P.follows .mixedOrders = true) (hB : (depsB .any l.toArray && apartB l.toArray n && aheadB .any l.toArray && decide (l.filterMap (·.dst) = ds)) = true)
    (hn : a.tmps.size = n) (hdef : a.defers = []) (hG : G w.drew) (hold : ∀ t, t ∉ ds → S t (a.eval (.tmp t)) w.drew)
    (hs : GrowAllG P .any l.toArray S Z G Q 0 l)
    (hend : ∀ v w', G w' → (∀ t, t ∈ ds → S t (v t) w') → (∀ (i : Nat) (o : Oper), l[i]? = some o → o.dst = none → Z i w') → Q .normal (putsL a v ds) w') :
    (Code.region id l.toArray true).wp P Q a w := by
  simp only [Bool.and_eq_true, decide_eq_true_eq] at hB
  obtain ⟨⟨⟨hd, ha⟩, hah⟩, hds⟩ := hB
  refine wp_region_any hm ?_
  refine grow_any' hd ha (fun i o ho => by have := hs.at i o (by simpa using ho); simpa using this) ?_ l.toArray.size _ a _ (by simp) ?_ ?_ (S := S) (Z := Z) (G := G) (n := n) (a0 := a)
  · intro listed a' w' hz h hr
    have hall := all_listed hah hz hr
    have hmem : ∀ (i : Nat) (o : Oper) (t : Nat), l.toArray[i]? = some o → o.dst = some t → t ∈ ds := fun i o t ho hdt => by
      rw [← hds]
      obtain ⟨hlt, e⟩ := List.getElem?_eq_some_iff.1 (show l[i]? = some o by simpa using ho)
      exact List.mem_filterMap.2 ⟨o, e ▸ List.getElem_mem hlt, hdt⟩
    have e : a' = putsL a (fun t => a'.eval (.tmp t)) ds := by
      refine act_ext (by rw [h.d, putsL_defers, hdef]) (by rw [h.sz, putsL_tmps_size, hn]) fun t ht => ?_
      rw [putsL_eval _ t ds a (by rw [hn, ← h.sz]; exact ht)]
      by_cases hm : t ∈ ds
      · rw [if_pos hm]
      · rw [if_neg hm]
        exact h.un t fun i o ho _ hdt => hm (hmem i o t ho hdt)
    rw [e]
    refine hend _ w' h.g (fun t ht => ?_) (fun i o ho hdn => ?_)
    · rw [← hds] at ht
      obtain ⟨o, ho, hdt⟩ := List.mem_filterMap.1 ht
      obtain ⟨i, hi, e2⟩ := List.getElem_of_mem ho
      have hli : l.toArray[i]? = some o := by simp [List.getElem?_eq_getElem hi, e2]
      have hnew := h.new i o hli (hall i (Array.getElem?_eq_some_iff.1 hli).1)
      unfold oval at hnew
      rw [hdt] at hnew
      exact hnew
    · have ho' : l.toArray[i]? = some o := by simpa using ho
      have hnew := h.new i o ho' (hall i (Array.getElem?_eq_some_iff.1 ho').1)
      rw [hdn] at hnew
      exact hnew
  · simp
  · refine ⟨hG, hdef, hn, fun t ht hno => ?_, fun t _ => rfl, fun i o ho hl => ?_⟩
    · refine hold t fun hm => ?_
      rw [← hds] at hm
      obtain ⟨o, ho, hdt⟩ := List.mem_filterMap.1 hm
      obtain ⟨i, hi, e2⟩ := List.getElem_of_mem ho
      exact hno i o (by simp [List.getElem?_eq_getElem hi, e2]) hdt
    · rw [getD_replicate_false] at hl; cases hl
end
end Go.Proofs.YtainljmnhocbgaaGreatDoor.G2
set_option linter.unusedVariables false
set_option linter.unusedSimpArgs false
namespace Go.Proofs.YtainljmnhocbgaaGreatDoor
open Go.RowKit

/-! ### two right URIs with one text are one -/
theorem next_some {o : Option Sq} (ho : o ≠ some .stop) (l : Tx) (u : PU) : ∃ r, NextOk o l u r := by
  have ht : TrimT l l := ⟨⟨0, rfl⟩, fun _ _ _ _ _ => rfl, fun _ => rfl⟩
  cases o with
  | none => exact ⟨_, rfl⟩
  | some q =>
    cases q with
    | slashes => exact ⟨_, rfl⟩
    | user => exact ⟨_, rfl⟩
    | host => exact ⟨_, rfl⟩
    | ip => exact ⟨none, .inl rfl⟩
    | port => exact ⟨_, rfl⟩
    | params => exact ⟨_, l, ht, rfl⟩
    | heads => exact ⟨_, l, ht, rfl⟩
    | stop => exact absurd rfl ho
theorem run_some : ∀ (n : Nat) (o : Option Sq) (l : Tx) (u : PU), rk o ≤ n → ∃ r, PRun o l u r := by
  intro n
  induction n with
  | zero => intro o l u h; exfalso; rcases o with _ | q <;> (try cases q) <;> simp [rk] at h
  | succ n ih =>
    intro o l u h
    by_cases ho : o = some .stop
    · subst ho; exact ⟨_, .done l u⟩
    · obtain ⟨r, hr⟩ := next_some ho l u
      cases r with
      | none => exact ⟨_, .fail hr⟩
      | some x =>
        obtain ⟨r, hr2⟩ := ih (some x.1) x.2.1 x.2.2 (by have := (next_rk hr).1; omega)
        exact ⟨r, .step hr hr2⟩
theorem top_some (l : Tx) : ∃ r, PTop l PU.zero r := by
  unfold PTop
  by_cases h : l = []
  · exact ⟨none, by rw [if_pos h]⟩
  · obtain ⟨r, hr⟩ := run_some _ none l PU.zero (Nat.le_refl _)
    exact ⟨r, by rw [if_neg h]; exact hr⟩
theorem text_inj {u v : PU} (hu : GoodU u) (hv : GoodU v) (h : uText u = uText v) : u = v := by
  obtain ⟨r, hr⟩ := top_some (uText u)
  have h1 := law_back hu hr
  rw [h] at hr
  have h2 := law_back hv hr
  rw [h1] at h2
  injection h2
theorem apart_eq {u v : PU} (hu : GoodU u) (hv : GoodU v) : decide (uText u = uText v) = puB u v := by
  by_cases h : u = v
  · subst h; rw [(puB_iff u u).2 rfl]; simp
  · have h1 : ¬ uText u = uText v := fun e => h (text_inj hu hv e)
    have h2 : puB u v = false := by
      cases hb : puB u v with
      | false => rfl
      | true => exact absurd ((puB_iff u v).1 hb) h
    rw [h2, decide_eq_false h1]

/-! ### the walk -/
def apS (w : World) (x y : UV) (u v : PU) : Nat → Value → World → Prop
  | 2, a, _ => a = .pointer (some ⟨w.heap.size, 0, none⟩)
  | 3, a, _ => a = .pointer (some ⟨w.heap.size + 1, 0, none⟩)
  | 22, a, _ => a = x.val
  | 23, a, W => Bv W a (uText u)
  | 24, a, _ => a = y.val
  | 25, a, W => Bv W a (uText v)
  | 26, a, _ => a = .bool (decide (uText u = uText v))
  | 27, a, _ => a = x.val
  | 28, a, _ => a = y.val
  | 29, a, _ => a = .bool (puB u v)
  | 30, a, _ => a = .bool true
  | 31, a, _ => a = .bool true
  | 32, a, _ => a = .bool true
  | 33, a, _ => a = .bool true
  | 4, a, _ => a = .bool true
  | _, _, _ => True
theorem apS_le (w : World) (x y : UV) (u v : PU) (t : Nat) (a : Value) (w1 w2 : World) (k : Le w1 w2) (h : apS w x y u v t a w1) : apS w x y u v t a w2 := by
  unfold apS at h ⊢
  split at h <;> first | exact h | exact h.le k
def apG (w : World) (x y : UV) (W : World) : Prop := Le w W ∧ W.heap[w.heap.size]? = some (.cells x.row 26 (0, 0)) ∧ W.heap[w.heap.size + 1]? = some (.cells y.row 26 (0, 0))
theorem apG_le (w : World) (x y : UV) (w1 w2 : World) (k : Le w1 w2) (h : apG w x y w1) : apG w x y w2 := ⟨Le.trans h.1 k, k.heap h.2.1, k.heap h.2.2⟩
set_option maxRecDepth 8000 in
set_option maxHeartbeats 8000000 in
theorem fnUriApart_c (w : World) (x y : UV) (u v : PU) (hx : Uw w x u) (hy : Uw w y v) (hL : Laid w) :
    Calls Tryz.prog 4 #[x.val, y.val] w fun e w' => e = .returned (.bool true) ∧ Le w w' := by
  have HX := Lib.hid hx
  have HY := Lib.hid hy
  have HL := Lib.hid hL
  have hval : Hid (x.val = .agg #[x.scheme, x.raw, .bool x.wild, .bool x.slash, x.user, x.pass, x.host, .int .i64 x.port, x.ps, x.hs]) := Lib.hid rfl
  have hval2 : Hid (y.val = .agg #[y.scheme, y.raw, .bool y.wild, .bool y.slash, y.user, y.pass, y.host, .int .i64 y.port, y.ps, y.hs]) := Lib.hid rfl
  clear hx hy hL
  rw [hval.out, hval2.out]
  go_enter Tryz.func4, Tryz.ntmps4
  have HB0 : Hid (((w.alloc (Obj.cells #[x.scheme, x.raw, .bool x.wild, .bool x.slash, x.user, x.pass, x.host, .int .i64 x.port, x.ps, x.hs] 26)).alloc (Obj.cells #[y.scheme, y.raw, .bool y.wild, .bool y.slash, y.user, y.pass, y.host, .int .i64 y.port, y.ps, y.hs] 26)).heap[w.heap.size]? = some (.cells x.row 26 (0, 0))) := Lib.hid (heap_alloc2_old w _ _)
  have HC0 : Hid (((w.alloc (Obj.cells #[x.scheme, x.raw, .bool x.wild, .bool x.slash, x.user, x.pass, x.host, .int .i64 x.port, x.ps, x.hs] 26)).alloc (Obj.cells #[y.scheme, y.raw, .bool y.wild, .bool y.slash, y.user, y.pass, y.host, .int .i64 y.port, y.ps, y.hs] 26)).heap[w.heap.size + 1]? = some (.cells y.row 26 (0, 0))) := Lib.hid (heap_alloc2_new w _ _)
  have HL0 : Hid (Le w ((w.alloc (Obj.cells #[x.scheme, x.raw, .bool x.wild, .bool x.slash, x.user, x.pass, x.host, .int .i64 x.port, x.ps, x.hs] 26)).alloc (Obj.cells #[y.scheme, y.raw, .bool y.wild, .bool y.slash, y.user, y.pass, y.host, .int .i64 y.port, y.ps, y.hs] 26))) := Lib.hid (((Le.refl w).alloc _).alloc _)
  go_upto_region 1 with fail
  generalize (w.alloc (Obj.cells #[x.scheme, x.raw, .bool x.wild, .bool x.slash, x.user, x.pass, x.host, .int .i64 x.port, x.ps, x.hs] 26)).alloc (Obj.cells #[y.scheme, y.raw, .bool y.wild, .bool y.slash, y.user, y.pass, y.host, .int .i64 y.port, y.ps, y.hs] 26) = W0 at HB0 HC0 HL0 ⊢
  generalize Value.agg #[x.scheme, x.raw, .bool x.wild, .bool x.slash, x.user, x.pass, x.host, .int .i64 x.port, x.ps, x.hs] = ag0
  generalize Value.agg #[y.scheme, y.raw, .bool y.wild, .bool y.slash, y.user, y.pass, y.host, .int .i64 y.port, y.ps, y.hs] = ag1
  go_wp2_with (refine wpList_load_row rfl 26 (.tmp 2) rfl w.heap.size rfl 26 x.row (0, 0) _ HB0.out Tryz.underlying26 rfl uri_size ?_)
  refine (zzFits2_c W0 x u (ftU u) rfl (HX.out.le HL0.out)).mono ?_
  rintro e w1 ⟨rfl, hle1⟩
  have HL1 := Lib.hid (HL0.out.trans hle1)
  have HB1 := Lib.hid (hle1.heap HB0.out)
  have HC1 := Lib.hid (hle1.heap HC0.out)
  clear hle1
  cases hf : ftU u
  · clear hf
    go_wp2
    go_ret
    exact ⟨rfl, HL1.out⟩
  obtain ⟨_, _, _, _, _, f6, f7⟩ := ftU_parts hf
  have HQ : Hid (Uq (fun _ => True) w x u) := Lib.hid (HX.out.uq (by have := (ftKs_parts f6).1; omega) (by have := (ftKs_parts f7).1; omega))
  clear f6 f7 hf
  have ay0 : w1.cell? ⟨w.heap.size + 1, 0, none⟩ = some (y.scheme) := by rw [cell_cells HC1.out 0]; rfl
  have ay1 : w1.cell? ⟨w.heap.size + 1, 1, none⟩ = some (y.raw) := by rw [cell_cells HC1.out 1]; rfl
  have ay2 : w1.cell? ⟨w.heap.size + 1, 2, none⟩ = some (.bool y.wild) := by rw [cell_cells HC1.out 2]; rfl
  have ay3 : w1.cell? ⟨w.heap.size + 1, 3, none⟩ = some (.bool y.slash) := by rw [cell_cells HC1.out 3]; rfl
  have ay4 : w1.cell? ⟨w.heap.size + 1, 4, none⟩ = some (y.user) := by rw [cell_cells HC1.out 4]; rfl
  have ay5 : w1.cell? ⟨w.heap.size + 1, 5, none⟩ = some (y.pass) := by rw [cell_cells HC1.out 5]; rfl
  have ay6 : w1.cell? ⟨w.heap.size + 1, 6, none⟩ = some (y.host) := by rw [cell_cells HC1.out 6]; rfl
  have ay7 : w1.cell? ⟨w.heap.size + 1, 7, none⟩ = some (.int .i64 y.port) := by rw [cell_cells HC1.out 7]; rfl
  have ay8 : w1.cell? ⟨w.heap.size + 1, 8, none⟩ = some (y.ps) := by rw [cell_cells HC1.out 8]; rfl
  have ay9 : w1.cell? ⟨w.heap.size + 1, 9, none⟩ = some (y.hs) := by rw [cell_cells HC1.out 9]; rfl
  go_wp2_with fail
  refine (zzFits2_c w1 y v (ftU v) rfl (HY.out.le HL1.out)).mono ?_
  rintro e w2 ⟨rfl, hle2⟩
  have HL2 := Lib.hid (HL1.out.trans hle2)
  have HB2 := Lib.hid (hle2.heap HB1.out)
  have HC2 := Lib.hid (hle2.heap HC1.out)
  clear hle2
  clear ay0 ay1 ay2 ay3 ay4 ay5 ay6 ay7 ay8 ay9
  cases hf : ftU v
  · clear hf
    go_wp2
    go_ret
    exact ⟨rfl, HL2.out⟩
  obtain ⟨_, _, _, _, _, f6, f7⟩ := ftU_parts hf
  have HR : Hid (Uq (fun _ => True) w y v) := Lib.hid (HY.out.uq (by have := (ftKs_parts f6).1; omega) (by have := (ftKs_parts f7).1; omega))
  clear f6 f7 hf
  go_wp2_with (refine wpList_load_row rfl 26 (.tmp 2) rfl w.heap.size rfl 26 x.row (0, 0) _ HB2.out Tryz.underlying26 rfl uri_size ?_)
  refine (isUri_c w2 x u (HQ.out.le HL2.out)).mono ?_
  rintro e w3 ⟨g, rfl, hg, hle3⟩
  have HL3 := Lib.hid (HL2.out.trans hle3)
  have HB3 := Lib.hid (hle3.heap HB2.out)
  have HC3 := Lib.hid (hle3.heap HC2.out)
  have HG := Lib.hid hg
  clear hle3 hg
  cases g
  · go_wp2_with fail
    refine (known_c w3 (HL.out.le HL3.out)).mono ?_
    rintro e w4 ⟨rfl, hle4⟩
    have HL4 := Lib.hid (HL3.out.trans hle4)
    clear hle4
    go_wp2
    go_ret
    exact ⟨rfl, HL4.out⟩
  have HGU := Lib.hid (HG.out rfl)
  clear HG
  have by0 : w3.cell? ⟨w.heap.size + 1, 0, none⟩ = some (y.scheme) := by rw [cell_cells HC3.out 0]; rfl
  have by1 : w3.cell? ⟨w.heap.size + 1, 1, none⟩ = some (y.raw) := by rw [cell_cells HC3.out 1]; rfl
  have by2 : w3.cell? ⟨w.heap.size + 1, 2, none⟩ = some (.bool y.wild) := by rw [cell_cells HC3.out 2]; rfl
  have by3 : w3.cell? ⟨w.heap.size + 1, 3, none⟩ = some (.bool y.slash) := by rw [cell_cells HC3.out 3]; rfl
  have by4 : w3.cell? ⟨w.heap.size + 1, 4, none⟩ = some (y.user) := by rw [cell_cells HC3.out 4]; rfl
  have by5 : w3.cell? ⟨w.heap.size + 1, 5, none⟩ = some (y.pass) := by rw [cell_cells HC3.out 5]; rfl
  have by6 : w3.cell? ⟨w.heap.size + 1, 6, none⟩ = some (y.host) := by rw [cell_cells HC3.out 6]; rfl
  have by7 : w3.cell? ⟨w.heap.size + 1, 7, none⟩ = some (.int .i64 y.port) := by rw [cell_cells HC3.out 7]; rfl
  have by8 : w3.cell? ⟨w.heap.size + 1, 8, none⟩ = some (y.ps) := by rw [cell_cells HC3.out 8]; rfl
  have by9 : w3.cell? ⟨w.heap.size + 1, 9, none⟩ = some (y.hs) := by rw [cell_cells HC3.out 9]; rfl
  go_wp2_with fail
  refine (isUri_c w3 y v (HR.out.le HL3.out)).mono ?_
  rintro e w4 ⟨g, rfl, hg, hle4⟩
  have HL4 := Lib.hid (HL3.out.trans hle4)
  have HB4 := Lib.hid (hle4.heap HB3.out)
  have HC4 := Lib.hid (hle4.heap HC3.out)
  have HG := Lib.hid hg
  clear hle4 hg
  clear by0 by1 by2 by3 by4 by5 by6 by7 by8 by9
  cases g
  · go_wp2_with fail
    refine (known_c w4 (HL.out.le HL4.out)).mono ?_
    rintro e w5 ⟨rfl, hle5⟩
    have HL5 := Lib.hid (HL4.out.trans hle5)
    clear hle5
    go_wp2
    go_ret
    exact ⟨rfl, HL5.out⟩
  have HGV := Lib.hid (HG.out rfl)
  clear HG
  go_upto_region 5 with fail
  have hm : (Tryz.prog).follows .mixedOrders = true := by kernel_rfl
  refine G2.wp_region_grow_put (apS w x y u v) (fun _ _ => True) (apG w x y) 34 [22, 23, 24, 25, 26, 27, 28, 29, 30, 31, 32, 33, 4] hm (by kernel_rfl) rfl rfl ?hG ?hold ?hs ?hend
  case hG => exact ⟨HL4.out.drew, HB4.out, HC4.out⟩
  case hold =>
    intro t ht
    simp only [List.mem_cons, List.mem_nil_iff, or_false, not_or] at ht
    unfold apS
    split <;> first | rfl | trivial | (exfalso; simp at ht)
  case hs =>
    refine ⟨?_, ?_, ?_, ?_, ?_, ?_, ?_, ?_, ?_, ?_, ?_, ?_, ?_, trivial⟩
    · refine .free (GrowStep.det ?_) rfl
      intro a W hg hop
      have h0 : a.eval (.tmp 2) = (.pointer (some ⟨w.heap.size, 0, none⟩)) := (hop 2 (by simp [Op.operands, Call.operands]))
      refine ⟨x.val, ?_, rfl⟩
      have hs := loadAt_row (P := Tryz.prog) hg.2.1 Tryz.underlying26 rfl uri_size
      simp only [execOp, h0, hs, Sem.run_bind, Sem.run_pure, Result.andThen, Sem.run_map]
      rfl
    · refine .free (GrowStep.call ?_ ?_ ?_ ?_) rfl
      · exact fun t a w1 w2 k h => apS_le w x y u v t a w1 w2 k h
      · exact fun _ _ _ _ h => h
      · exact apG_le w x y
      intro a W hg hop
      have h0 : a.eval (.tmp 22) = x.val := (hop 22 (by simp [Op.operands, Call.operands]))
      have h0' : a.tmps[22]?.getD undef = x.val := by simpa [Act.eval] using h0
      refine ⟨16, #[x.val], ?_, (uriText_c _ W x u (HQ.out.le hg.1) (good_small HGU.out) HGU.out.raw (HL.out.le hg.1) (good_host HGU.out) (good_kvs HGU.out.ps 59).1 (good_kvs HGU.out.hs 38).1 (by have := (good_kvs HGU.out.ps 59).2; omega) (by have := (good_kvs HGU.out.hs 38).2; omega)).mono ?_⟩
      · simp only [execOp, h0]
        go_simp
      · rintro e w' ⟨v', rfl, hv, hle⟩; exact ⟨_, rfl, hle, hv.1⟩
    · refine .free (GrowStep.det ?_) rfl
      intro a W hg hop
      have h0 : a.eval (.tmp 3) = (.pointer (some ⟨w.heap.size + 1, 0, none⟩)) := (hop 3 (by simp [Op.operands, Call.operands]))
      refine ⟨y.val, ?_, rfl⟩
      have hs := loadAt_row (P := Tryz.prog) hg.2.2 Tryz.underlying26 rfl uri_size
      simp only [execOp, h0, hs, Sem.run_bind, Sem.run_pure, Result.andThen, Sem.run_map]
      rfl
    · refine .free (GrowStep.call ?_ ?_ ?_ ?_) rfl
      · exact fun t a w1 w2 k h => apS_le w x y u v t a w1 w2 k h
      · exact fun _ _ _ _ h => h
      · exact apG_le w x y
      intro a W hg hop
      have h0 : a.eval (.tmp 24) = y.val := (hop 24 (by simp [Op.operands, Call.operands]))
      have h0' : a.tmps[24]?.getD undef = y.val := by simpa [Act.eval] using h0
      refine ⟨16, #[y.val], ?_, (uriText_c _ W y v (HR.out.le hg.1) (good_small HGV.out) HGV.out.raw (HL.out.le hg.1) (good_host HGV.out) (good_kvs HGV.out.ps 59).1 (good_kvs HGV.out.hs 38).1 (by have := (good_kvs HGV.out.ps 59).2; omega) (by have := (good_kvs HGV.out.hs 38).2; omega)).mono ?_⟩
      · simp only [execOp, h0]
        go_simp
      · rintro e w' ⟨v', rfl, hv, hle⟩; exact ⟨_, rfl, hle, hv.1⟩
    · refine .free (GrowStep.call ?_ ?_ ?_ ?_) rfl
      · exact fun t a w1 w2 k h => apS_le w x y u v t a w1 w2 k h
      · exact fun _ _ _ _ h => h
      · exact apG_le w x y
      intro a W hg hop
      have h0 : Bv W (a.eval (.tmp 23)) (uText u) := (hop 23 (by simp [Op.operands, Call.operands]))
      have h1 : Bv W (a.eval (.tmp 25)) (uText v) := (hop 25 (by simp [Op.operands, Call.operands]))
      refine ⟨15, #[a.eval (.tmp 23), a.eval (.tmp 25)], ?_, (equal_l W _ _ _ _ _ rfl h0 h1).mono ?_⟩
      · simp only [execOp]
        go_simp
      · rintro e w' ⟨rfl, hle⟩; exact ⟨_, rfl, hle, rfl⟩
    · refine .free (GrowStep.det ?_) rfl
      intro a W hg hop
      have h0 : a.eval (.tmp 2) = (.pointer (some ⟨w.heap.size, 0, none⟩)) := (hop 2 (by simp [Op.operands, Call.operands]))
      refine ⟨x.val, ?_, rfl⟩
      have hs := loadAt_row (P := Tryz.prog) hg.2.1 Tryz.underlying26 rfl uri_size
      simp only [execOp, h0, hs, Sem.run_bind, Sem.run_pure, Result.andThen, Sem.run_map]
      rfl
    · refine .free (GrowStep.det ?_) rfl
      intro a W hg hop
      have h0 : a.eval (.tmp 3) = (.pointer (some ⟨w.heap.size + 1, 0, none⟩)) := (hop 3 (by simp [Op.operands, Call.operands]))
      refine ⟨y.val, ?_, rfl⟩
      have hs := loadAt_row (P := Tryz.prog) hg.2.2 Tryz.underlying26 rfl uri_size
      simp only [execOp, h0, hs, Sem.run_bind, Sem.run_pure, Result.andThen, Sem.run_map]
      rfl
    · refine .free (GrowStep.call ?_ ?_ ?_ ?_) rfl
      · exact fun t a w1 w2 k h => apS_le w x y u v t a w1 w2 k h
      · exact fun _ _ _ _ h => h
      · exact apG_le w x y
      intro a W hg hop
      have h0 : a.eval (.tmp 27) = x.val := (hop 27 (by simp [Op.operands, Call.operands]))
      have h1 : a.eval (.tmp 28) = y.val := (hop 28 (by simp [Op.operands, Call.operands]))
      have h0' : a.tmps[27]?.getD undef = x.val := by simpa [Act.eval] using h0
      have h1' : a.tmps[28]?.getD undef = y.val := by simpa [Act.eval] using h1
      refine ⟨17, #[x.val, y.val], ?_, (sameUri_c _ _ W x y u v (HQ.out.le hg.1) (HR.out.le hg.1)).mono ?_⟩
      · simp only [execOp, h0, h1]
        go_simp
      · rintro e w' ⟨rfl, hle⟩; exact ⟨_, rfl, hle, rfl⟩
    · refine .free (GrowStep.det ?_) rfl
      intro a W hg hop
      have h0 : a.eval (.tmp 26) = .bool (decide (uText u = uText v)) := (hop 26 (by simp [Op.operands, Call.operands]))
      have h1 : a.eval (.tmp 29) = .bool (puB u v) := (hop 29 (by simp [Op.operands, Call.operands]))
      have he := apart_eq HGU.out HGV.out
      rw [he] at h0
      refine ⟨.bool true, ?_, rfl⟩
      simp only [execOp, h0, h1]
      cases puB u v <;> go_simp
    · refine .free (GrowStep.det ?_) rfl
      intro a W hg hop
      have h0 : a.eval (.tmp 30) = .bool true := (hop 30 (by simp [Op.operands, Call.operands]))
      refine ⟨.bool true, ?_, rfl⟩
      simp only [execOp, h0]
      go_simp
    · refine .inl ⟨GrowStep.call ?_ ?_ ?_ ?_, .inr ⟨9, true, _, 31, rfl, rfl, rfl, by kernel_rfl, ?_⟩⟩
      · exact fun t a w1 w2 k h => apS_le w x y u v t a w1 w2 k h
      · exact fun _ _ _ _ h => h
      · exact apG_le w x y
      · intro a W hg hop
        refine ⟨8, #[], ?_, (known_c W (HL.out.le hg.1)).mono ?_⟩
        · simp only [execOp]
          go_simp
        · rintro e w' ⟨rfl, hle⟩; exact ⟨_, rfl, hle, rfl⟩
      · intro a W _ ha
        obtain rfl : a = .bool true := ha
        rfl
    · refine .free (GrowStep.det ?_) rfl
      intro a W hg hop
      have h0 : a.eval (.tmp 31) = .bool true := (hop 31 (by simp [Op.operands, Call.operands]))
      have h1 : a.eval (.tmp 32) = .bool true := (hop 32 (by simp [Op.operands, Call.operands]))
      refine ⟨.bool true, ?_, rfl⟩
      simp only [execOp, h0, h1]
      go_simp
    · refine .free (GrowStep.det ?_) rfl
      intro a W hg hop
      have h0 : a.eval (.tmp 33) = .bool true := (hop 33 (by simp [Op.operands, Call.operands]))
      refine ⟨.bool true, ?_, rfl⟩
      simp only [execOp, h0]
      go_simp
  case hend =>
    intro s w' hg hS hZ
    have s4 : s 4 = .bool true := hS 4 (by decide)
    have HG := Lib.hid hg.1
    clear hS hZ hg
    simp only [putsL, Act.put, List.setIfInBounds_toArray, List.set_cons_zero, List.set_cons_succ]
    rw [s4]
    go_wp2
    go_ret
    exact ⟨rfl, HG.out⟩
end Go.Proofs.YtainljmnhocbgaaGreatDoor
