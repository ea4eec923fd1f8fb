/- What the specification computes of the text of a URI, in plain Lean. No program stands here. -/
import Derived.Test.YtbdeohmdpkkpdaaGreatDoorSpec
set_option linter.unusedVariables false
set_option linter.unusedSimpArgs false
namespace Go.Proofs.YtbdeohmdpkkpdaaGreatDoor
open Go.RowKit

def isNm (c : UInt8) : Bool := 48 ≤ c && c ≤ 57
def isAn (c : UInt8) : Bool := isAl c || isNm c
def isHx (c : UInt8) : Bool := isNm c || (97 ≤ c && c ≤ 102) || (65 ≤ c && c ≤ 70)
def userL : Tx := [45, 95, 46, 33, 126, 42, 39, 40, 41, 38, 61, 43, 36, 44, 59, 63, 47]
def passL : Tx := [45, 95, 46, 33, 126, 42, 39, 40, 41, 38, 61, 43, 36, 44]
def paramL : Tx := [45, 95, 46, 33, 126, 42, 39, 40, 41, 47, 58, 38, 43, 36]
def headL : Tx := [45, 95, 46, 33, 126, 42, 39, 40, 41, 47, 63, 58, 43, 36]
def tokenL : Tx := [45, 46, 33, 37, 42, 95, 43, 96, 39, 126]
/-- a text of letters, digits, some signs and whole escapes -/
def okOf (signs : Tx) : Tx → Bool
  | [] => true
  | c :: r => if c = 37 then (match r with | a :: b :: r' => isHx a && isHx b && okOf signs r' | _ => false) else (isAn c || signs.contains c) && okOf signs r
def isTok (l : Tx) : Bool := l.all (fun c => isAn c || tokenL.contains c) && !l.isEmpty
/-- the place of a byte -/
def ixOf (l : Tx) (c : UInt8) : Nat := l.findIdx (· == c)
def ixI (l : Tx) (c : UInt8) : Int := if ixOf l c < l.length then (ixOf l c : Int) else -1
/-- the last place of a byte; the length if there is none -/
def lxI (l : Tx) (c : UInt8) : Int := if l.reverse.findIdx (· == c) < l.length then ((l.length - 1 - l.reverse.findIdx (· == c) : Nat) : Int) else -1
/-- the pieces of a text between the places of a byte -/
def pcs (c : UInt8) : Tx → List Tx
  | [] => [[]]
  | x :: r => if x = c then [] :: pcs c r else (match pcs c r with | [] => [[x]] | p :: ps => (x :: p) :: ps)
def kvOf (p : Tx) : Tx × Tx := if ixOf p 61 < p.length then (p.take (ixOf p 61), p.drop (ixOf p 61 + 1)) else (p, [])
def kvOk (signs p : Tx) : Bool := !(decide (ixOf p 61 < p.length) && (kvOf p).2.isEmpty) && !(kvOf p).1.isEmpty && okOf signs (kvOf p).1 && okOf signs (kvOf p).2
/-- no two keys are one but for the size of letters -/
def apB (l : KVs) : Bool := decide (l.Pairwise (fun x y => x.1.map lowC ≠ y.1.map lowC))
def pairsS (l : Tx) (sep : UInt8) (signs : Tx) : Option KVs :=
  if (pcs sep l).all (kvOk signs) && apB ((pcs sep l).map kvOf) then some ((pcs sep l).map kvOf) else none
def isHostB (l : Tx) : Bool := l.all (fun c => isAn c || c == 45 || c == 46) && (match l.head?, l.getLast? with | some a, some b => isAn a && isAn b | _, _ => false)
def decN (l : Tx) : Nat := l.foldl (fun n c => 10 * n + (c.toNat - 48)) 0
def portS (l : Tx) : Option Nat := if l.all isNm && !l.isEmpty && !(l.head? == some 48) && decide (decN l ≤ 65535) then some (decN l) else none
def hostPortS (l : Tx) : Option (Tx × Nat) :=
  if ixOf l 58 < l.length then (match portS (l.drop (ixOf l 58 + 1)) with | some n => if isHostB (l.take (ixOf l 58)) then some (l.take (ixOf l 58), n) else none | none => none)
  else if isHostB l then some (l, 0) else none
def valuedB (l : KVs) : Bool := l.all (fun x => !x.2.isEmpty)
/-- the user, the password, what follows -/
def sUser (l : Tx) : Option (Tx × Tx × Tx) :=
  if 0 ≤ lxI l 64 then
    let k := (lxI l 64).toNat
    let us := l.take k
    if ixOf us 58 < us.length then
      (if !(us.drop (ixOf us 58 + 1)).isEmpty && okOf passL (us.drop (ixOf us 58 + 1)) && !(us.take (ixOf us 58)).isEmpty && okOf userL (us.take (ixOf us 58)) then some (us.take (ixOf us 58), us.drop (ixOf us 58 + 1), l.drop (k + 1)) else none)
    else (if !us.isEmpty && okOf userL us then some (us, [], l.drop (k + 1)) else none)
  else some ([], [], l)
/-- the headers, what stands ahead of them -/
def sHeads (l : Tx) : Option (KVs × Tx) :=
  if ixOf l 63 < l.length then (match pairsS (l.drop (ixOf l 63 + 1)) 38 headL with | some hs => if valuedB hs then some (hs, l.take (ixOf l 63)) else none | none => none)
  else some ([], l)
def lastV (l : KVs) : Tx := (l.getLast?.getD ([], [])).2
/-- the parameters, what stands ahead of them -/
def sParams (l : Tx) (hs : KVs) : Option (KVs × Tx) :=
  if ixOf l 59 < l.length then (match pairsS (l.drop (ixOf l 59 + 1)) 59 paramL with | some ps => if !hs.isEmpty && (lastV ps).isEmpty then none else some (ps, l.take (ixOf l 59)) | none => none)
  else some ([], l)
def sSipUri (sc l : Tx) : Option PU :=
  match sUser l with
  | none => none
  | some (un, pw, s) =>
    match sHeads s with
    | none => none
    | some (hs, s1) =>
      match sParams s1 hs with
      | none => none
      | some (ps, s2) =>
        match hostPortS s2 with
        | none => none
        | some (h, n) => some ⟨sc, [], false, false, un, pw, h, n, ps, hs⟩
def prB (l : Tx) : Bool := l.all (fun c => 33 ≤ c && c ≤ 126 && c != 60 && c != 62 && c != 34 && c != 44)
/-- what is told of a text -/
inductive SR | told | open_ | val (u : PU)
def SR.of : Option PU → SR | none => .open_ | some u => .val u
def sUri (l : Tx) : SR :=
  if l = [] then .told
  else if l = [42] then .val { PU.zero with host := [42], wild := true }
  else
    let k := ixOf l 58
    if 0 < k && decide (k < l.length) && (l.take k).all isAl then
      let sc := l.take k
      let rest := l.drop (k + 1)
      let low := sc.map lowC
      if low ≠ sSip ∧ low ≠ sSips then
        (if !rest.isEmpty && prB rest && !(rest.head? == some 47) && decide (low = sc) then .val { PU.zero with scheme := sc, raw := rest } else .open_)
      else if low ≠ sc then .open_
      else if [47, 47].isPrefixOf rest then .open_
      else SR.of (sSipUri sc rest)
    else .open_
end Go.Proofs.YtbdeohmdpkkpdaaGreatDoor
