/- The plain law of addresses: what the package reads of a text is what the specification tells. -/
import Derived.Test.YteedhaenbamiaaaGreatDoorAdS
import Derived.Test.YteedhaenbamiaaaGreatDoorIsP
import Derived.Lib.TrimAscii
set_option linter.unusedVariables false
set_option linter.unusedSimpArgs false
namespace Go.Proofs.YteedhaenbamiaaaGreatDoor
open Go.RowKit

/-! ### what the specification tells -/
def quoC (c : UInt8) : Bool := 32 ≤ c && c ≤ 126 && c != 34 && c != 92
def quoB (l : Tx) : Bool := l.all quoC && (l.isEmpty || (l.head? != some 32 && l.getLast? != some 32))
def wordsB (l : Tx) : Bool := (pcs 32 l).all isTok
def sName (l : Tx) : Option Tx :=
  if l = [] then some []
  else if l.head? = some 34 ∧ 3 < l.length ∧ l.getLast? = some 32 ∧ l[l.length - 2]? = some 34 ∧ quoB ((l.take (l.length - 2)).drop 1) = true then some ((l.take (l.length - 2)).drop 1)
  else if l.getLast? = some 32 ∧ wordsB (l.take (l.length - 1)) = true then some (l.take (l.length - 1)) else none
def sTail (l : Tx) : Option KVs :=
  if l = [] then some []
  else if l.head? = some 59 then (match pairsS (l.drop 1) 59 tokenL with | some kvs => if ipB kvs = true then some kvs else none | none => none) else none
inductive SA | open_ | val (n : Tx) (u : PU) (l : KVs)
def bareC (c : UInt8) : Bool := c != 59 && c != 63 && c != 44 && c != 34 && c != 32
def sBare (l : Tx) : SA :=
  if l.all bareC = true then (match sUri l with | .val u => if u.wild = true then .open_ else .val [] u [] | _ => .open_) else .open_
def sAddr (l : Tx) : SA :=
  if ixOf l 60 < l.length then
    if ixOf l 62 < l.length ∧ ixOf l 60 ≤ ixOf l 62 then
      match sName (l.take (ixOf l 60)) with
      | none => .open_
      | some n =>
        match sUri ((l.take (ixOf l 62)).drop (ixOf l 60 + 1)) with
        | .val u => (match sTail (l.drop (ixOf l 62 + 1)) with | some kvs => if u.wild = true then .open_ else .val n u kvs | none => .open_)
        | _ => .open_
    else .open_
  else sBare l

/-! ### running -/
theorem arun_stop {l : Tx} {v : AV} {r : Option AV} (h : ARun .stop l v r) : r = some v := by
  cases h with
  | done => rfl
  | fail h => exact False.elim h
  | step h k => exact False.elim h
theorem arun_next {q : Aq} {l : Tx} {v : AV} {x : Aq × Tx × AV} {r : Option AV} (h : ARun q l v r) (hq : q ≠ .stop) (hd : ∀ y, ANextOk q l v y → y = some x) : ARun x.1 x.2.1 x.2.2 r := by
  cases h with
  | done => exact (hq rfl).elim
  | fail h => cases hd _ h
  | step h k =>
    have := hd _ h
    injection this with e
    subst e
    exact k

/-! ### the parameters -/
theorem tk_not {c : UInt8} (h : tkq c = true) : c ≠ 61 ∧ c ≠ 59 ∧ c ≠ 34 ∧ c ≠ 60 ∧ c ≠ 32 ∧ c ≠ 62 ∧ c.toNat < 128 ∧ Lib.isSp c = false := by
  have hn : ∀ d : UInt8, tkq d = false → c ≠ d := fun d hd e => by rw [e, hd] at h; cases h
  have h1 := hn 9 (by rfl)
  have h2 := hn 10 (by rfl)
  have h3 := hn 11 (by rfl)
  have h4 := hn 12 (by rfl)
  have h5 := hn 13 (by rfl)
  have h6 := hn 32 (by rfl)
  refine ⟨hn _ (by rfl), hn _ (by rfl), hn _ (by rfl), hn _ (by rfl), h6, hn _ (by rfl), ?_, ?_⟩
  · unfold tkq at h
    rw [Bool.or_eq_true] at h
    rcases h with h | h
    · exact (an_low h).1
    · have hl : ∀ x ∈ tokenL, x.toNat < 128 := by decide
      exact hl c (by simpa using h)
  · simp [Lib.isSp, h1, h2, h3, h4, h5, h6]
theorem addP_piece {ps : KVs} {p : Tx} (hk : kvOk tokenL p = true) (hd : ∀ x ∈ ps, x.1 ≠ (kvOf p).1) : addP ps p = ps ++ [kvOf p] := by
  obtain ⟨k, v, e, hk0, hkc, hvc, hp⟩ := kvOk_cases hk
  rw [e] at hd ⊢
  have h61 : alw tokenL 61 = false := by rfl
  have hk61 : ∀ c ∈ k, c ≠ 61 := fun c hc => ne_alw (hkc c hc) h61
  have hv61 : ∀ c ∈ v, c ≠ 61 := fun c hc => ne_alw (hvc c hc) h61
  unfold addP
  rcases hp with ⟨rfl, rfl⟩ | ⟨hv, rfl⟩
  · rw [lastE_none hk61, if_neg (by omega), if_neg hk0, addKV_none hd]
  · rw [lastE_at hv61, if_pos (List.length_pos_iff.2 hk0), take_mid, drop_mid, addKV_none hd]
theorem addP_nil (ps : KVs) : addP ps [] = ps := by
  unfold addP lastE
  simp
theorem ixOf_app {a r : Tx} {c : UInt8} (h : ∀ x ∈ a, x ≠ c) : ixOf (a ++ c :: r) c = a.length := ixOf_at h
theorem prms_pieces : ∀ (ls : List Tx) (v : AV) (r : Option AV), ls ≠ [] → (∀ p ∈ ls, kvOk tokenL p = true ∧ ∀ c ∈ p, c ≠ 59) → (ls.map kvOf).Pairwise (fun x y => x.1 ≠ y.1) → (∀ p ∈ ls, ∀ x ∈ v.ps, x.1 ≠ (kvOf p).1) →
    ARun .prms (joinS 59 ls) v r → r = some { v with ps := v.ps ++ ls.map kvOf } := by
  intro ls
  induction ls with
  | nil => intro v r h; exact absurd rfl h
  | cons p ls ih =>
    intro v r _ hok hpw hdis hrun
    have hp := hok p (by simp)
    have hadd := addP_piece hp.1 (hdis p (by simp))
    cases ls with
    | nil =>
      have hno : ¬ ixOf p 59 < p.length := by
        have := List.findIdx_eq_length.2 (fun x hx => by simpa using hp.2 x hx : ∀ x ∈ p, (x == 59) = false)
        unfold ixOf
        omega
      have h1 := arun_next (x := (.stop, p, { v with ps := v.ps ++ [kvOf p] })) hrun (by simp) (fun y hy => by
        have hy : y = some (aPrms p v) := hy
        rw [hy]
        unfold aPrms
        rw [if_neg hno, hadd])
      rw [arun_stop h1]
      rfl
    | cons q ls =>
      have hj : joinS 59 (p :: q :: ls) = p ++ 59 :: joinS 59 (q :: ls) := rfl
      rw [hj] at hrun
      have hix := ixOf_app (r := joinS 59 (q :: ls)) hp.2
      have h1 := arun_next (x := (.prms, joinS 59 (q :: ls), { v with ps := v.ps ++ [kvOf p] })) hrun (by simp) (fun y hy => by
        have hy : y = some (aPrms (p ++ 59 :: joinS 59 (q :: ls)) v) := hy
        rw [hy]
        unfold aPrms
        rw [hix, if_pos (lt_mid _ _ _), take_mid, drop_mid, hadd])
      have h2 := ih { v with ps := v.ps ++ [kvOf p] } r (by simp) (fun z hz => hok z (by simp only [List.mem_cons] at hz ⊢; exact .inr hz)) (List.Pairwise.of_cons hpw) (fun z hz x hx => by
        rw [List.mem_append] at hx
        rcases hx with hx | hx
        · exact hdis z (by simp only [List.mem_cons] at hz ⊢; exact .inr hz) x hx
        · obtain rfl : x = kvOf p := by simpa using hx
          exact List.rel_of_pairwise_cons hpw (List.mem_map_of_mem hz)) h1
      rw [h2]
      simp
theorem pcs_free {c : UInt8} : ∀ (l : Tx), ∀ p ∈ pcs c l, ∀ x ∈ p, x ≠ c := by
  intro l
  induction l with
  | nil => intro p hp; unfold pcs at hp; simp at hp; subst hp; simp
  | cons y r ih =>
    intro p hp
    unfold pcs at hp
    split at hp
    · rcases List.mem_cons.1 hp with rfl | hp
      · simp
      · exact ih p hp
    · rename_i hy
      obtain ⟨q, qs, e⟩ := pcs_cons c r
      rw [e] at hp ih
      rcases List.mem_cons.1 hp with rfl | hp
      · intro x hx
        rcases List.mem_cons.1 hx with rfl | hx
        · exact hy
        · exact ih q (by simp) x hx
      · exact ih p (by simp [hp])
theorem prms_run {Q : Tx} {kvs : KVs} (h : pairsS Q 59 tokenL = some kvs) {v : AV} {r : Option AV} (hv : v.ps = []) (hr : ARun .prms Q v r) : r = some { v with ps := kvs } := by
  unfold pairsS at h
  split at h
  · rename_i hc
    injection h with h
    subst h
    simp only [Bool.and_eq_true] at hc
    rw [← join_pcs 59 Q] at hr
    have hne : pcs 59 Q ≠ [] := by obtain ⟨p, ps, e⟩ := pcs_cons 59 Q; rw [e]; simp
    have := prms_pieces (pcs 59 Q) v r hne (fun p hp => ⟨List.all_eq_true.1 hc.1 p hp, pcs_free Q p hp⟩) (pw_ne hc.2) (fun p _ x hx => by rw [hv] at hx; cases hx) hr
    rw [this, hv]
    rfl
  · cases h
theorem tail_run {T : Tx} {kvs : KVs} (h : sTail T = some kvs) {v : AV} {r : Option AV} (hv : v.ps = []) (hr : ARun .prms T v r) : r = some { v with ps := kvs } := by
  unfold sTail at h
  split at h
  · rename_i h0
    subst h0
    injection h with h
    subst h
    have h1 := arun_next (x := (.stop, [], v)) hr (by simp) (fun y hy => by
      have hy : y = some (aPrms [] v) := hy
      rw [hy]
      unfold aPrms
      rw [if_neg (by simp), addP_nil])
    rw [arun_stop h1]
    cases v
    simp only at hv
    subst hv
    rfl
  · split at h
    · rename_i h0 h59
      obtain ⟨Q, rfl⟩ : ∃ Q, T = 59 :: Q := by
        cases T with
        | nil => exact absurd rfl h0
        | cons x Q => simp at h59; exact ⟨Q, by rw [h59]⟩
      split at h
      · rename_i ks hp
        split at h
        · injection h with h
          subst h
          have h1 := arun_next (x := (.prms, Q, v)) hr (by simp) (fun y hy => by
            have hy : y = some (aPrms (59 :: Q) v) := hy
            rw [hy]
            have hi : ixOf (59 :: Q) 59 = 0 := ixOf_at (a := []) (fun x hx => by cases hx)
            unfold aPrms
            rw [hi, if_pos (by simp)]
            simp only [List.take_zero, addP_nil]
            rfl)
          exact prms_run hp hv h1
        · cases h
      · cases h
    · cases h

/-! ### the URI between brackets, and alone -/
theorem uri_told {t : Tx} {u : PU} (h : sUri t = .val u) {o : Option PU} (hp : PTop t PU.zero o) : o = some u := by
  have := law hp
  rw [h] at this
  exact this
theorem brack_run {ut T : Tx} {u : PU} {kvs : KVs} (hu : ∀ c ∈ ut, c ≠ 62) (h : sUri ut = .val u) (ht : sTail T = some kvs) {v : AV} {r : Option AV} (hv : v.ps = []) (hz : v.uri = PU.zero) (hr : ARun .brack (ut ++ 62 :: T) v r) :
    r = some { v with uri := u, ps := kvs } := by
  have h1 := arun_next (x := (.prms, T, { v with uri := u })) hr (by simp) (fun y hy => by
    have hy : (if ixOf (ut ++ 62 :: T) 62 < (ut ++ 62 :: T).length then aUri ((ut ++ 62 :: T).take (ixOf (ut ++ 62 :: T) 62)) .prms ((ut ++ 62 :: T).drop (ixOf (ut ++ 62 :: T) 62 + 1)) v y else y = none) := hy
    rw [ixOf_at hu, if_pos (lt_mid _ _ _), take_mid, drop_mid] at hy
    obtain ⟨o, hp, rfl⟩ := hy
    rw [hz] at hp
    rw [uri_told h hp]
    rfl)
  rw [tail_run (v := { v with uri := u }) ht hv h1]
theorem uri_ne {l : Tx} {u : PU} (h : sUri l = .val u) : l ≠ [] := by
  rintro rfl
  unfold sUri at h
  simp at h
theorem bare_run {l : Tx} {u : PU} (hb : ∀ c ∈ l, c ≠ 59) (h : sUri l = .val u) {v : AV} {r : Option AV} (hz : v.uri = PU.zero) (hr : ARun .uri l v r) : r = some { v with uri := u } := by
  have hno : ¬ ixOf l 59 < l.length := by
    have := List.findIdx_eq_length.2 (fun x hx => by simpa using hb x hx : ∀ x ∈ l, (x == 59) = false)
    unfold ixOf
    omega
  have h1 := arun_next (x := (.stop, l, { v with uri := u })) hr (by simp) (fun y hy => by
    have hy : (if l = [] then y = none else if ixOf l 59 < l.length then aUri (l.take (ixOf l 59)) .prms (l.drop (ixOf l 59 + 1)) v y else aUri l .stop l v y) := hy
    rw [if_neg (uri_ne h), if_neg hno] at hy
    obtain ⟨o, hp, rfl⟩ := hy
    rw [hz] at hp
    rw [uri_told h hp]
    rfl)
  exact arun_stop h1

/-! ### the name -/
theorem disp_brack {a R : Tx} {v : AV} {r : Option AV} (ha : ∀ c ∈ a, dsEnd c = false) (hr : ARun .disp (a ++ 60 :: R) v r) : ARun .brack R { v with name := Lib.trimSpaceD a } r := by
  have hi := findIdx_app (p := dsEnd) (a := a) (r := R) (c := 60) ha (by rfl)
  exact arun_next (x := (.brack, R, { v with name := Lib.trimSpaceD a })) hr (by simp) (fun y hy => by
    have hy : y = some (aDisp (a ++ 60 :: R) v) := hy
    rw [hy]
    unfold aDisp
    simp only [hi]
    rw [if_pos (lt_mid _ _ _), getD_mid, if_neg (by decide), if_pos rfl, take_mid, drop_mid])
theorem disp_quote {R : Tx} {v : AV} {r : Option AV} (hr : ARun .disp (34 :: R) v r) : ARun .quoted R v r := by
  have hi := findIdx_app (p := dsEnd) (a := []) (r := R) (c := 34) (fun x hx => by cases hx) (by rfl)
  exact arun_next (x := (.quoted, R, v)) hr (by simp) (fun y hy => by
    have hy : y = some (aDisp ([] ++ 34 :: R) v) := hy
    rw [hy]
    unfold aDisp
    simp only [hi]
    rw [if_pos (lt_mid _ _ _), getD_mid, if_pos rfl, drop_mid])
theorem disp_bare {l : Tx} {v : AV} {r : Option AV} (ha : ∀ c ∈ l, dsEnd c = false) (hr : ARun .disp l v r) : ARun .uri l v r := by
  have hi := findIdx_no (p := dsEnd) ha
  exact arun_next (x := (.uri, l, v)) hr (by simp) (fun y hy => by
    have hy : y = some (aDisp l v) := hy
    rw [hy]
    unfold aDisp
    simp only [hi]
    rw [if_neg (by omega)])
theorem qFind_at : ∀ (a R : Tx) (k : Nat), (∀ c ∈ a, c ≠ 34 ∧ c ≠ 92) → qFind false (a ++ 34 :: R) k = .at_ (k + a.length) := by
  intro a
  induction a with
  | nil => intro R k _; simp [qFind]
  | cons c a ih =>
    intro R k h
    have hc := h c (by simp)
    rw [List.cons_append, qFind, if_neg hc.2, if_neg (by simp), if_neg hc.1, ih R (k + 1) fun x hx => h x (by simp [hx])]
    simp only [List.length_cons]
    congr 1
    omega
theorem quoted_run {a R : Tx} {v : AV} {r : Option AV} (ha : ∀ c ∈ a, c ≠ 34 ∧ c ≠ 92) (hr : ARun .quoted (a ++ 34 :: 32 :: 60 :: R) v r) : ARun .brack R { v with name := a } r := by
  have hq := qFind_at a (32 :: 60 :: R) 0 ha
  rw [Nat.zero_add] at hq
  have hi := findIdx_app (p := lsEnd) (a := [32]) (r := R) (c := 60) (fun x hx => by simp at hx; subst hx; rfl) (by rfl)
  exact arun_next (x := (.brack, R, { v with name := a })) hr (by simp) (fun y hy => by
    have hy : y = aQuoted (a ++ 34 :: 32 :: 60 :: R) v := hy
    rw [hy]
    unfold aQuoted
    rw [hq]
    simp only [drop_mid, take_mid]
    have e : (32 :: 60 :: R : Tx) = [32] ++ 60 :: R := rfl
    rw [e]
    simp only [hi]
    rw [if_pos (lt_mid _ _ _), getD_mid, if_pos rfl, drop_mid])
theorem trim_word {x y : UInt8} {m : Tx} (hx : x.toNat < 128) (hx2 : Lib.isSp x = false) : ∀ {t : Tx}, t = x :: m → t.getLast? = some y → y.toNat < 128 → Lib.isSp y = false → Lib.trimSpaceD (t ++ [32]) = t := by
  intro t ht hl hy hy2
  obtain ⟨b, rfl⟩ : ∃ b, t = b ++ [y] := by
    have hne : t ≠ [] := by rw [ht]; simp
    refine ⟨t.dropLast, ?_⟩
    have := List.dropLast_concat_getLast hne
    rw [List.getLast?_eq_some_getLast hne] at hl
    injection hl with hl
    rw [hl] at this
    exact this.symm
  unfold Lib.trimSpaceD
  have h1 : ((b ++ [y]) ++ [32]).length = (b.length + 1) + 1 := by simp
  rw [h1]
  have h2 : (b ++ [y]) ++ [32] = x :: (m ++ [32]) := by rw [ht]; rfl
  rw [h2, Lib.left_stop _ _ _ hx2 hx, ← h2, Lib.right_step _ _ _ (by rfl), Lib.right_stop _ _ _ hy2 hy]
theorem words_ch {l : Tx} (h : wordsB l = true) : (∀ c ∈ l, tkq c = true ∨ c = 32) ∧ (∃ x m, l = x :: m ∧ tkq x = true) ∧ ∃ y, l.getLast? = some y ∧ tkq y = true := by
  have hj := join_pcs 32 l
  have hall : ∀ p ∈ pcs 32 l, p ≠ [] ∧ ∀ c ∈ p, tkq c = true := fun p hp => by
    have := List.all_eq_true.1 h p hp
    rw [isTok_all] at this
    simp only [Bool.and_eq_true, Bool.not_eq_true', List.isEmpty_eq_false_iff] at this
    exact ⟨this.2, fun c hc => List.all_eq_true.1 this.1 c hc⟩
  obtain ⟨p0, ps0, e0⟩ := pcs_cons 32 l
  rw [e0] at hj hall
  clear h e0
  subst hj
  refine ⟨?_, ?_, ?_⟩
  · exact join_all (P := fun c => tkq c = true ∨ c = 32) (.inr rfl) (p0 :: ps0) (fun p hp c hc => .inl ((hall p hp).2 c hc))
  · obtain ⟨hne, hc⟩ := hall p0 (by simp)
    obtain ⟨x, m, rfl⟩ := List.exists_cons_of_ne_nil hne
    cases ps0 with
    | nil => exact ⟨x, m, rfl, hc x (by simp)⟩
    | cons q qs => exact ⟨x, _, rfl, hc x (by simp)⟩
  · induction ps0 generalizing p0 with
    | nil =>
      obtain ⟨hne, hc⟩ := hall p0 (by simp)
      refine ⟨p0.getLast hne, ?_, hc _ (List.getLast_mem hne)⟩
      exact List.getLast?_eq_some_getLast hne
    | cons q qs ih =>
      obtain ⟨y, hy, hty⟩ := ih q (fun p hp => hall p (by simp only [List.mem_cons] at hp ⊢; exact .inr hp))
      refine ⟨y, ?_, hty⟩
      show (p0 ++ 32 :: joinS 32 (q :: qs)).getLast? = some y
      have hne : joinS 32 (q :: qs) ≠ [] := by intro e; rw [e] at hy; cases hy
      rw [List.getLast?_append, List.getLast?_cons_of_ne_nil hne, hy]
      rfl
theorem name_run {N n R : Tx} {v : AV} {r : Option AV} (h : sName N = some n) (hN : ∀ c ∈ N, c ≠ 60) (hv : v.name = []) (hr : ARun .disp (N ++ 60 :: R) v r) : ARun .brack R { v with name := n } r := by
  unfold sName at h
  split at h
  · rename_i h0
    subst h0
    injection h with h
    subst h
    exact disp_brack (a := []) (fun x hx => by cases hx) hr
  · split at h
    · rename_i h0 hq
      injection h with h
      subst h
      obtain ⟨hh, hlen, hl, h34, hqb⟩ := hq
      unfold quoB at hqb
      simp only [Bool.and_eq_true] at hqb
      have hch : ∀ c ∈ (N.take (N.length - 2)).drop 1, c ≠ 34 ∧ c ≠ 92 := fun c hc => by
        have := List.all_eq_true.1 hqb.1 c hc
        unfold quoC at this
        simp only [Bool.and_eq_true, bne_iff_ne, ne_eq] at this
        exact ⟨this.1.2, this.2⟩
      have hsplit : N = 34 :: ((N.take (N.length - 2)).drop 1 ++ [34, 32]) := by
        have e1 : N = N.take (N.length - 2) ++ N.drop (N.length - 2) := (List.take_append_drop _ _).symm
        have e2 : N.drop (N.length - 2) = [34, 32] := by
          have hlt : N.length - 2 < N.length := by omega
          have hlt2 : N.length - 2 + 1 < N.length := by omega
          rw [List.drop_eq_getElem_cons hlt, List.drop_eq_getElem_cons hlt2, List.drop_of_length_le (by omega)]
          rw [List.getElem?_eq_getElem hlt] at h34
          injection h34 with h34
          rw [List.getLast?_eq_getElem?, List.getElem?_eq_getElem (by omega)] at hl
          injection hl with hl
          have e3 : N[N.length - 2 + 1]'hlt2 = N[N.length - 1]'(by omega) := by congr 1; omega
          rw [h34, e3, hl]
        have e4 : N.take (N.length - 2) = 34 :: (N.take (N.length - 2)).drop 1 := by
          cases N with
          | nil => exact absurd rfl h0
          | cons x m =>
            simp at hh
            subst hh
            obtain ⟨k, hk⟩ : ∃ k, (34 :: m : Tx).length - 2 = k + 1 := ⟨(34 :: m : Tx).length - 3, by simp only [List.length_cons] at hlen ⊢; omega⟩
            rw [hk]
            simp
        rw [← List.cons_append, ← e4, ← e2]
        exact e1
      have e : N ++ 60 :: R = 34 :: ((N.take (N.length - 2)).drop 1 ++ 34 :: 32 :: 60 :: R) := by
        conv => lhs; rw [hsplit]
        simp
      rw [e] at hr
      exact quoted_run hch (disp_quote hr)
    · split at h
      · rename_i h0 _ hw
        injection h with h
        subst h
        obtain ⟨hl, hw⟩ := hw
        obtain ⟨hc, ⟨x, m, ex, hx⟩, y, hy, hty⟩ := words_ch hw
        have e : N = N.take (N.length - 1) ++ [32] := by
          have hne := h0
          have := List.dropLast_concat_getLast hne
          rw [List.getLast?_eq_some_getLast hne] at hl
          injection hl with hl
          rw [hl, List.dropLast_eq_take] at this
          exact this.symm
        have hds : ∀ c ∈ N, dsEnd c = false := fun c hc' => by
          rw [e, List.mem_append] at hc'
          rcases hc' with h | h
          · rcases hc c h with h | h
            · have := tk_not h
              simp [dsEnd, this.2.2.1, this.2.2.2.1, this.2.1]
            · subst h; rfl
          · obtain rfl : c = 32 := by simpa using h
            rfl
        have h1 := disp_brack hds hr
        have ht : Lib.trimSpaceD N = N.take (N.length - 1) := by
          conv => lhs; rw [e]
          exact trim_word (tk_not hx).2.2.2.2.2.2.1 (tk_not hx).2.2.2.2.2.2.2 ex hy (tk_not hty).2.2.2.2.2.2.1 (tk_not hty).2.2.2.2.2.2.2
        rw [ht] at h1
        exact h1
      · cases h
/-- THE PLAIN LAW -/
theorem addr_law {l n : Tx} {u : PU} {kvs : KVs} {r : Option AV} (h : sAddr l = .val n u kvs) (hr : ATop l r) : r = some ⟨n, u, kvs⟩ := by
  unfold sAddr at h
  split at h
  · rename_i h60
    split at h
    · rename_i h62
      obtain ⟨h62, hle⟩ := h62
      obtain ⟨e1, hN⟩ := ixOf_split h60
      have hlt : ixOf l 60 < ixOf l 62 := by
        rcases Nat.lt_or_ge (ixOf l 60) (ixOf l 62) with h | h
        · exact h
        · exfalso
          have e : ixOf l 60 = ixOf l 62 := by omega
          have a1 := List.findIdx_getElem (p := (· == (60 : UInt8))) (xs := l) (w := h60)
          have a2 := List.findIdx_getElem (p := (· == (62 : UInt8))) (xs := l) (w := h62)
          simp only [beq_iff_eq] at a1 a2
          have : l[ixOf l 60]'h60 = l[ixOf l 62]'h62 := by congr 1
          unfold ixOf at this
          rw [a1, a2] at this
          exact absurd this (by decide)
      obtain ⟨e2, hU⟩ := ixOf_split h62
      split at h
      · cases h
      · rename_i n' hn
        split at h
        · rename_i u' hu
          split at h
          · rename_i ks hks
            split at h
            · cases h
            · injection h with h1 h2 h3
              subst h1; subst h2; subst h3
              have hne : l ≠ [] := by rintro rfl; simp at h60
              unfold ATop at hr
              rw [if_neg hne] at hr
              have e3 : l.drop (ixOf l 60 + 1) = (l.take (ixOf l 62)).drop (ixOf l 60 + 1) ++ 62 :: l.drop (ixOf l 62 + 1) := by
                obtain ⟨k, hk⟩ : ∃ k, k = ixOf l 60 + 1 := ⟨_, rfl⟩
                rw [← hk, ← List.drop_append_of_le_length (by rw [List.length_take]; omega), ← e2]
              rw [e1, e3] at hr
              have h4 := name_run hn hN rfl hr
              have h5 := brack_run (fun c hc => hU c (List.mem_of_mem_drop hc)) hu hks rfl rfl h4
              exact h5
          · cases h
        · cases h
    · cases h
  · rename_i h60
    unfold sBare at h
    split at h
    · rename_i hb
      split at h
      · rename_i u' hu
        split at h
        · cases h
        · injection h with h1 h2 h3
          subst h1; subst h2; subst h3
          have hne := uri_ne hu
          unfold ATop at hr
          rw [if_neg hne] at hr
          have hc : ∀ c ∈ l, dsEnd c = false ∧ c ≠ 59 := fun c hc => by
            have h1 := List.all_eq_true.1 hb c hc
            have h2 := ixOf_none h60 c hc
            unfold bareC at h1
            simp only [Bool.and_eq_true, bne_iff_ne, ne_eq] at h1
            exact ⟨by simp [dsEnd, h1.1.2, h2, h1.1.1.1.1], h1.1.1.1.1⟩
          exact bare_run (fun c h => (hc c h).2) hu rfl (disp_bare (fun c h => (hc c h).1) hr)
      · cases h
    · cases h
end Go.Proofs.YteedhaenbamiaaaGreatDoor
