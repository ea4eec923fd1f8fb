/- What the package's reader of addresses computes, as plain functions on lists of bytes. No program stands here. -/
import Derived.Test.YteedhaenbamiaaaGreatDoorLaw
import Derived.Lib.SpaceU
set_option linter.unusedVariables false
set_option linter.unusedSimpArgs false
namespace Go.Proofs.YteedhaenbamiaaaGreatDoor
open Go.RowKit

/-- the states of the reader of addresses -/
inductive Aq | disp | quoted | brack | uri | prms | stop
/-- what is gathered -/
structure AV where
  name : Tx
  uri : PU
  ps : KVs
def AV.zero : AV := ⟨[], PU.zero, []⟩
def dsEnd (c : UInt8) : Bool := c == 34 || c == 60 || c == 59
def lsEnd (c : UInt8) : Bool := c == 60 || c == 59
def aDisp (l : Tx) (v : AV) : Aq × Tx × AV :=
  let i := l.findIdx dsEnd
  if i < l.length then
    if l.getD i 0 = 34 then (.quoted, l.drop (i + 1), v)
    else if l.getD i 0 = 60 then (.brack, l.drop (i + 1), { v with name := Lib.trimSpaceD (l.take i) })
    else (.uri, l, v)
  else (.uri, l, v)
/-- where the quoted text ends -/
inductive QR | over | bad | at_ (k : Nat)
def qFind (e : Bool) : Tx → Nat → QR
  | [], _ => .over
  | c :: r, k => if c = 92 then qFind (!e) r (k + 1) else if e = true then (if c = 10 ∨ c = 13 then .bad else qFind false r (k + 1)) else if c = 34 then .at_ k else qFind false r (k + 1)
def aQuoted (l : Tx) (v : AV) : Option (Aq × Tx × AV) :=
  match qFind false l 0 with
  | .at_ k =>
    let s := l.drop (k + 1)
    let i := s.findIdx lsEnd
    if i < s.length then some (if s.getD i 0 = 60 then .brack else .uri, s.drop (i + 1), { v with name := l.take k }) else none
  | _ => none
/-- a URI is read -/
def aUri (t : Tx) (q : Aq) (l : Tx) (v : AV) (r : Option (Aq × Tx × AV)) : Prop :=
  ∃ o, PTop t v.uri o ∧ r = o.map (fun u => (q, l, { v with uri := u }))
/-- the place of the last equal sign; 0 if there is none -/
def lastE (l : Tx) : Nat := l.length - 1 - l.reverse.findIdx (· == 61)
def addP (ps : KVs) (p : Tx) : KVs :=
  if 0 < lastE p then addKV ps (p.take (lastE p)) (p.drop (lastE p + 1)) else if p = [] then ps else addKV ps p []
def aPrms (l : Tx) (v : AV) : Aq × Tx × AV :=
  if ixOf l 59 < l.length then (.prms, l.drop (ixOf l 59 + 1), { v with ps := addP v.ps (l.take (ixOf l 59)) }) else (.stop, l, { v with ps := addP v.ps l })
/-- what a state does -/
def ANextOk (q : Aq) (l : Tx) (v : AV) (r : Option (Aq × Tx × AV)) : Prop :=
  match q with
  | .disp => r = some (aDisp l v)
  | .quoted => r = aQuoted l v
  | .brack => if ixOf l 62 < l.length then aUri (l.take (ixOf l 62)) .prms (l.drop (ixOf l 62 + 1)) v r else r = none
  | .uri => if l = [] then r = none else if ixOf l 59 < l.length then aUri (l.take (ixOf l 59)) .prms (l.drop (ixOf l 59 + 1)) v r else aUri l .stop l v r
  | .prms => r = some (aPrms l v)
  | .stop => False
inductive ARun : Aq → Tx → AV → Option AV → Prop
  | done (l : Tx) (v : AV) : ARun .stop l v (some v)
  | fail {q : Aq} {l : Tx} {v : AV} (h : ANextOk q l v none) : ARun q l v none
  | step {q : Aq} {l : Tx} {v : AV} {x : Aq × Tx × AV} {r : Option AV} (h : ANextOk q l v (some x)) (k : ARun x.1 x.2.1 x.2.2 r) : ARun q l v r
/-- which address a text is: none, or one -/
def ATop (l : Tx) (r : Option AV) : Prop := if l = [] then r = none else ARun .disp l AV.zero r

theorem lastE_snoc (l : Tx) (x : UInt8) : lastE (l ++ [x]) = if x = 61 then l.length else lastE l := by
  simp only [lastE, List.reverse_append, List.reverse_cons, List.reverse_nil, List.nil_append, List.singleton_append, List.length_append, List.length_cons, List.length_nil, List.findIdx_cons]
  by_cases h : x = 61
  · simp [h]
  · have : (x == 61) = false := by simp [h]
    rw [this, if_neg h]
    simp only [cond_false]
    omega
theorem lastE_none {l : Tx} (h : ∀ x ∈ l, x ≠ 61) : lastE l = 0 := by
  unfold lastE
  have : l.reverse.findIdx (· == 61) = l.reverse.length := by
    rw [List.findIdx_eq_length]
    intro x hx
    simpa using h x (by simpa using hx)
  rw [this, List.length_reverse]
  omega
theorem findIdx_app {p : UInt8 → Bool} {a r : Tx} {c : UInt8} (ha : ∀ x ∈ a, p x = false) (hc : p c = true) : (a ++ c :: r).findIdx p = a.length := by
  induction a with
  | nil => simp [List.findIdx_cons, hc]
  | cons x a ih =>
    rw [List.cons_append, List.findIdx_cons, ha x (by simp), cond_false, ih fun y hy => ha y (by simp [hy])]
    rfl
theorem lastE_at {a b : Tx} (h : ∀ c ∈ b, c ≠ 61) : lastE (a ++ 61 :: b) = a.length := by
  have e : (a ++ 61 :: b).reverse = b.reverse ++ 61 :: a.reverse := by simp
  unfold lastE
  rw [e, findIdx_app (fun x hx => by simpa using h x (by simpa using hx)) (by rfl)]
  simp only [List.length_append, List.length_cons, List.length_reverse]
  omega
theorem findIdx_no {p : UInt8 → Bool} {a : Tx} (ha : ∀ x ∈ a, p x = false) : a.findIdx p = a.length := by
  rw [List.findIdx_eq_length]
  exact fun x hx => by rw [ha x hx]
end Go.Proofs.YteedhaenbamiaaaGreatDoor
