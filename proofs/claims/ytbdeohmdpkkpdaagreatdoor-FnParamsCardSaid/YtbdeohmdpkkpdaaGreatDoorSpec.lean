/- What the package's functions on URIs compute, as plain functions on lists of bytes. No program stands here. -/
import Derived.Test.YtbdeohmdpkkpdaaGreatDoorBase
import Derived.Lib.AtoiAll
set_option linter.unusedVariables false
set_option linter.unusedSimpArgs false
namespace Go.Proofs.YtbdeohmdpkkpdaaGreatDoor
open Go.RowKit

abbrev Tx := List UInt8
abbrev KVs := List (Tx × Tx)
/-- a URI of the package -/
structure PU where
  scheme : Tx
  raw : Tx
  wild : Bool
  slash : Bool
  user : Tx
  pass : Tx
  host : Tx
  port : Int
  ps : KVs
  hs : KVs
def PU.zero : PU := ⟨[], [], false, false, [], [], [], 0, [], []⟩
/-- the states behind the first one -/
inductive Sq | slashes | user | host | ip | port | params | heads | stop
def isAl (c : UInt8) : Bool := (97 ≤ c && c ≤ 122) || (65 ≤ c && c ≤ 90)
def lowC (c : UInt8) : UInt8 := if 65 ≤ c && c ≤ 90 then c + 32 else c
def upC (c : UInt8) : UInt8 := if 97 ≤ c && c ≤ 122 then c - 32 else c
/-- the place of the last colon; 0 if there is none -/
def lastC (l : Tx) : Nat := l.length - 1 - l.reverse.findIdx (· == 58)
theorem lastC_snoc (l : Tx) (x : UInt8) : lastC (l ++ [x]) = if x = 58 then l.length else lastC l := by
  simp only [lastC, List.reverse_append, List.reverse_cons, List.reverse_nil, List.nil_append, List.singleton_append, List.length_append, List.length_cons, List.length_nil, List.findIdx_cons]
  by_cases h : x = 58
  · simp [h]
  · have : (x == 58) = false := by simp [h]
    rw [this, if_neg h]
    simp only [cond_false]
    omega
def sSip : Tx := [115, 105, 112]
def sSips : Tx := [115, 105, 112, 115]

def fScheme (l : Tx) (u : PU) : Option (Sq × Tx × PU) :=
  if l.length < 3 then (if l = [42] then some (.stop, [], { u with host := [42], wild := true }) else none)
  else
    let i := l.findIdx (fun c => !isAl c)
    if i < l.length then
      if l.getD i 0 = 58 then
        let sc := (l.take i).map lowC
        if sc = sSip ∨ sc = sSips then some (.slashes, l.drop (i + 1), { u with scheme := sc }) else some (.stop, [], { u with scheme := sc, raw := l.drop (i + 1) })
      else none
    else none
def fSlashes (l : Tx) (u : PU) : Sq × Tx × PU :=
  if [47, 47].isPrefixOf l then (.user, l.drop 2, { u with slash := true }) else (.user, l, { u with slash := false })
def usEnd (c : UInt8) : Bool := c == 91 || c == 64
def fUser (l : Tx) (u : PU) : Sq × Tx × PU :=
  let i := l.findIdx usEnd
  if i < l.length then
    if l.getD i 0 = 91 then (.host, l.drop i, u)
    else
      let e := lastC (l.take i)
      if 0 < e then (.host, l.drop (i + 1), { u with user := l.take e, pass := (l.take i).drop (e + 1) }) else (.host, l.drop (i + 1), { u with user := l.take i })
  else (.host, l, u)
def hoEnd (c : UInt8) : Bool := c == 91 || c == 58 || c == 59 || c == 63
def fHost (l : Tx) (u : PU) : Sq × Tx × PU :=
  let i := l.findIdx hoEnd
  if i < l.length then
    if l.getD i 0 = 91 then (.ip, l.drop i, u)
    else if l.getD i 0 = 58 then (.port, l.drop (i + 1), { u with host := l.take i })
    else if l.getD i 0 = 59 then (.params, l.drop (i + 1), { u with host := l.take i })
    else (.heads, l.drop (i + 1), { u with host := l.take i })
  else (.params, [], { u with host := l, wild := decide (l = [42]) })
/-- behind a bracket (k: the place of the closing one) -/
def fIp (l : Tx) (k : Nat) (u : PU) : Sq × Tx × PU :=
  let v := { u with host := l.take (k + 1) }
  match l.drop (k + 1) with
  | [] => (.params, [], v)
  | c :: t => if c = 58 then (.port, t, v) else if c = 59 then (.params, t, v) else if c = 63 then (.heads, t, v) else (.params, [], v)
def poEnd (c : UInt8) : Bool := c == 59 || c == 63
/-- the digits and what follows them -/
def fPort (l : Tx) : Tx × Sq × Tx :=
  let i := l.findIdx poEnd
  if i < l.length then (l.take i, if l.getD i 0 = 59 then .params else .heads, l.drop (i + 1)) else (l, .params, [])

/-! ### parameters -/
/-- adding a parameter: a key that is there gets the value -/
def addKV : KVs → Tx → Tx → KVs
  | [], k, v => [(k, v)]
  | x :: r, k, v => if x.1 = k then (k, v) :: r else x :: addKV r k v
structure UM where
  start : Nat
  sep : Nat
  quote : Int
  state : Nat
  acc : KVs
def sub (l : Tx) (a b : Nat) : Tx := (l.take b).drop a
def umStep (l : Tx) (sp : UInt8) (i : Nat) (c : UInt8) (m : UM) : UM :=
  match m.state with
  | 1 => { m with sep := 0, start := i, state := 2 }
  | 2 => if c = sp then { m with acc := addKV m.acc (sub l m.start i) [], state := 1 } else if c = 61 then { m with sep := i, state := 3 } else m
  | 3 => if c = 34 then { m with state := 4, quote := i } else if c = sp then { m with acc := addKV m.acc (sub l m.start m.sep) (sub l (m.sep + 1) i), start := m.sep + 1, state := 1 } else m
  | _ => if c = 34 then { m with acc := addKV m.acc (l.drop m.start) (sub l (m.quote.toNat + 1) i), state := 1 } else m
def umGo (l : Tx) (sp en : UInt8) : Nat → Nat → UM → Nat × UM
  | 0, i, m => (i, m)
  | f + 1, i, m => if h : i < l.length then (if l[i] = en then (i, m) else umGo l sp en f (i + 1) (umStep l sp i l[i] m)) else (l.length, m)
def umEnd (l : Tx) (n : Nat) (m : UM) : KVs :=
  let a := if 0 < m.sep ∧ m.start < m.sep then addKV m.acc (sub l m.start m.sep) (sub l (m.sep + 1) n) else m.acc
  if m.sep = 0 ∧ m.start < n then addKV a (l.drop m.start) [] else a
/-- what is read of a text without blanks ahead, behind the list p -/
def unm (l : Tx) (sp en : UInt8) (p : KVs) : Nat × KVs :=
  let r := umGo l sp en (l.length + 1) 0 ⟨0, 0, -1, 1, p⟩
  (r.1, umEnd l r.1 r.2)
end Go.Proofs.YtbdeohmdpkkpdaaGreatDoor
