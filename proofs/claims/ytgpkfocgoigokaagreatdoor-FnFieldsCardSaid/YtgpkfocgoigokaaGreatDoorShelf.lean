/-
  DERIVED: THE SHELF's CONTRACTS AT THIS DUMP, IN PLAIN WORDS (tools/lay-plain.mjs out of 'TryzShelf.lean', which tools/lay-shelf.mjs wrote): THE SAME DECLARATIONS UNDER THE SAME NAMES: 'import', 'namespace', 'open', 'def', 'theorem' AND NOTHING ELSE: no command of the shelf's: FOR A HAND-IN. Each laying: the table of numbers ('.._ren') and one theorem, a field a fact of the dump's own or the kernel's comparison; each contract: ONE APPLICATION.
-/
import Derived.Shelf.Strings.Builder1
import Derived.Shelf.Strings.Builder2
import Derived.Shelf.Small.Wraps
import Derived.Shelf.Strings.BuilderF
import Derived.Shelf.Strings.BuilderK
import Derived.Shelf.Strings.Builder2Cap
import Derived.Shelf.Strconv.Atoi
import Derived.Shelf.Strconv.Itoa0
import Derived.Shelf.Strconv.Itoa1
import Derived.Shelf.LaysM
import Derived.Shelf.Strconv.Itoa2
import Derived.Shelf.Strconv.Itoa3
import Derived.Shelf.Bytes.Len
import Derived.Shelf.Bytes.TryGrow
import Derived.Shelf.Bytes.GrowSliceCatch
import Derived.Shelf.Bytes.GrowSlice
import Derived.Shelf.Bytes.String
import Derived.Shelf.Bytes.Reset
import Derived.Shelf.Strconv.AtoiErrFast
import Derived.Shelf.Strconv.ParseIntEmpty
import Derived.Shelf.Strconv.AtoiFail
import Derived.Shelf.Strconv.Clone
import Derived.Shelf.Strconv.SyntaxError
import Derived.Shelf.LaysC
import Derived.Shelf.Strconv.ToError
import Derived.Shelf.Strconv.AtoiErr
import Derived.Shelf.Strconv.Lower
import Derived.Shelf.Strconv.ParseUint10
import Derived.Shelf.Strconv.ParseUint10Empty
import Derived.Shelf.Strconv.ParseUint10Any
import Derived.Shelf.Strconv.ParseInt10
import Derived.Shelf.Strconv.AtoiLong
import Derived.Shelf.Strconv.AtoiInnerAll
import Derived.Shelf.Strconv.RangeError
import Derived.Shelf.Strconv.ToErrorRange
import Derived.Shelf.Strconv.AtoiAll
import Derived.Shelf.Strconv.ErrVarAll
import Derived.Shelf.Strconv.ParseUintEmpty
import Derived.Shelf.Strconv.ParseUint10b64
import Derived.Shelf.Strconv.ParseUint10b32
import Derived.Shelf.Strconv.ParseUint10b16
import Derived.Shelf.Strconv.ParseUint10b8
import Derived.Shelf.Bytes.GrowRow0Kept
import Derived.Shelf.Bytes.GrowRowKept
import Derived.Shelf.Bytes.GrowNilKept
import Derived.Shelf.Bytes.GrowKept
import Derived.Shelf.Bytes.WriteStringKept
import Derived.Shelf.Bytes.ResetKept
import Derived.Shelf.Bytes.BufferK
import Derived.Shelf.Bytes.LenAt
import Derived.Shelf.Bytes.StringAt
import Derived.Shelf.Bytes.TryGrowAt
import Derived.Shelf.GgClosure.StringsIndexFunc
import Derived.Shelf.GgClosure.StringsTrimFunc
import Derived.Shelf.GgClosure.StringsRunes
import Derived.Shelf.Strings.Prefix
import Derived.Shelf.Unicode.Latin
import Derived.Shelf.Unicode.Is16White
import Derived.Shelf.Unicode.IsSpaceAny
import Derived.Shelf.Unicode.Is16WhiteD
import Derived.Shelf.Unicode.IsSpaceAnyD
import Derived.Shelf.Unicode.Is16Any
import Derived.Shelf.Unicode.Is32Any
import Derived.Shelf.Unicode.ExclAny
import Derived.Shelf.Strings.FuncGrows
import Derived.Shelf.Strings.BuilderCap
import Derived.Test.YtgpkfocgoigokaaGreatDoorProg
namespace Go.Proofs
open Go.Shelf
def Tryz.lays169_ren : Go.Shelf.Ren := ⟨fun | 169 => 30 | n => n, fun | 70 => 82 | 9 => 9 | 0 => 0 | 72 => 84 | 37 => 22 | 127 => 129 | 3 => 3 | 5 => 5 | n => n, fun | n => n⟩
theorem Tryz.lays169 : Go.Proofs.Lays.n169 Tryz.prog Tryz.lays169_ren := {
  mixed := by kernel_rfl
  f169 := Tryz.func30.trans (congrArg some (by kernel_rfl))
  t0 := Tryz.underlying0
  a0 := Tryz.isAgg0
  z0 := Tryz.sizeOf0
  v0 := Tryz.zeroValue0
  t3 := Tryz.underlying3
  a3 := Tryz.isAgg3
  z3 := Tryz.sizeOf3
  v3 := Tryz.zeroValue3
  t9 := Tryz.underlying9
  a9 := Tryz.isAgg9
  z9 := Tryz.sizeOf9
  v9 := Tryz.zeroValue9
  t37 := Tryz.underlying22
  a37 := Tryz.isAgg22
  z37 := Tryz.sizeOf22
  v37 := Tryz.zeroValue22
  t70 := Tryz.underlying82
  a70 := Tryz.isAgg82
  z70 := Tryz.sizeOf82
  v70 := Tryz.zeroValue82
  t72 := Tryz.underlying84
  a72 := Tryz.isAgg84
  z72 := Tryz.sizeOf84
  v72 := Tryz.zeroValue84
  t127 := Tryz.underlying129
  a127 := Tryz.isAgg129
  z127 := Tryz.sizeOf129
  v127 := Tryz.zeroValue129 }
theorem Tryz.Builder_Extra_169 : Builder.Extra Tryz.prog Tryz.lays169_ren := {
  sizeBuilder := by kernel_rfl
  liesBuilder := by kernel_rfl
  t5 := Tryz.underlying5
  a5 := Tryz.isAgg5
  z5 := Tryz.sizeOf5
  v5 := Tryz.zeroValue5
  infoByte := by kernel_rfl
  cellsByte := by kernel_rfl
  sizeByte := by kernel_rfl
  neB5 := by decide }
def Tryz.lays165_ren : Go.Shelf.Ren := ⟨fun | 165 => 46 | 240 => 55 | 241 => 56 | 276 => 64 | 277 => 65 | n => n, fun | 70 => 82 | 3 => 3 | 0 => 0 | 4 => 4 | 9 => 9 | 20 => 20 | 72 => 84 | 37 => 22 | 164 => 145 | 5 => 5 | n => n, fun | n => n⟩
theorem Tryz.lays165 : Go.Proofs.Lays.n165 Tryz.prog Tryz.lays165_ren := {
  mixed := by kernel_rfl
  f165 := Tryz.func46.trans (congrArg some (by kernel_rfl))
  f240 := Tryz.func55.trans (congrArg some (by kernel_rfl))
  f241 := Tryz.func56.trans (congrArg some (by kernel_rfl))
  f276 := Tryz.func64.trans (congrArg some (by kernel_rfl))
  f277 := Tryz.func65.trans (congrArg some (by kernel_rfl))
  t0 := Tryz.underlying0
  a0 := Tryz.isAgg0
  z0 := Tryz.sizeOf0
  v0 := Tryz.zeroValue0
  t3 := Tryz.underlying3
  a3 := Tryz.isAgg3
  z3 := Tryz.sizeOf3
  v3 := Tryz.zeroValue3
  t4 := Tryz.underlying4
  a4 := Tryz.isAgg4
  z4 := Tryz.sizeOf4
  v4 := Tryz.zeroValue4
  t9 := Tryz.underlying9
  a9 := Tryz.isAgg9
  z9 := Tryz.sizeOf9
  v9 := Tryz.zeroValue9
  t20 := Tryz.underlying20
  a20 := Tryz.isAgg20
  z20 := Tryz.sizeOf20
  v20 := Tryz.zeroValue20
  t37 := Tryz.underlying22
  a37 := Tryz.isAgg22
  z37 := Tryz.sizeOf22
  v37 := Tryz.zeroValue22
  t70 := Tryz.underlying82
  a70 := Tryz.isAgg82
  z70 := Tryz.sizeOf82
  v70 := Tryz.zeroValue82
  t72 := Tryz.underlying84
  a72 := Tryz.isAgg84
  z72 := Tryz.sizeOf84
  v72 := Tryz.zeroValue84
  t164 := Tryz.underlying145
  a164 := Tryz.isAgg145
  z164 := Tryz.sizeOf145
  v164 := Tryz.zeroValue145 }
theorem Tryz.Builder_Extra_165 : Builder.Extra Tryz.prog Tryz.lays165_ren := {
  sizeBuilder := by kernel_rfl
  liesBuilder := by kernel_rfl
  t5 := Tryz.underlying5
  a5 := Tryz.isAgg5
  z5 := Tryz.sizeOf5
  v5 := Tryz.zeroValue5
  infoByte := by kernel_rfl
  cellsByte := by kernel_rfl
  sizeByte := by kernel_rfl
  neB5 := by decide }
open Go.RowKit in
/-- (*strings.Builder).Grow AT A BUILDER THAT HAS NOT BEEN WRITTEN ('var b strings.Builder; b.Grow(n)'): "Grow grows b's capacity, if necessary, to guarantee space for another n bytes.": it holds no byte behind it as before it. (LAID: no walk: one application.) -/
theorem Tryz.Builder_Grow_fresh (B b n : Nat) (w : World) (hB : B ≤ b) (hbk : w.heap[b]? = some (.cells #[.pointer none, .slice none 0 0] 84 (0, 0))) (hBw : B ≤ w.heap.size) (hn : n ≤ 281474976710656) :
    Calls Tryz.prog 46 #[.pointer (some ⟨b, 0, none⟩), .int .i64 n] w fun e w' => e = .returned (.tuple #[]) ∧ (Lib.BuilderAt 84 5 B b (.pointer (some ⟨b, 0, none⟩)) [] w' ∧ Below B w w') := Any.Builder_Grow_fresh Tryz.lays165 Tryz.Builder_Extra_165 B b n w hB hbk hBw hn
def Tryz.lays103_ren : Go.Shelf.Ren := ⟨fun | 103 => 49 | 210 => 57 | 206 => 66 | n => n, fun | 9 => 9 | 4 => 4 | 24 => 137 | 3 => 3 | n => n, fun | n => n⟩
theorem Tryz.lays103 : Go.Proofs.Lays.n103 Tryz.prog Tryz.lays103_ren := {
  mixed := by kernel_rfl
  f103 := Tryz.func49.trans (congrArg some (by kernel_rfl))
  f206 := Tryz.func66.trans (congrArg some (by kernel_rfl))
  f210 := Tryz.func57.trans (congrArg some (by kernel_rfl))
  t3 := Tryz.underlying3
  a3 := Tryz.isAgg3
  z3 := Tryz.sizeOf3
  v3 := Tryz.zeroValue3
  t4 := Tryz.underlying4
  a4 := Tryz.isAgg4
  z4 := Tryz.sizeOf4
  v4 := Tryz.zeroValue4
  t9 := Tryz.underlying9
  a9 := Tryz.isAgg9
  z9 := Tryz.sizeOf9
  v9 := Tryz.zeroValue9
  t24 := Tryz.underlying137
  a24 := Tryz.isAgg137
  z24 := Tryz.sizeOf137
  v24 := Tryz.zeroValue137 }
open Go.RowKit in
/-- strings.CutPrefix: "CutPrefix returns s without the provided leading prefix string and reports whether it found the prefix. If s doesn't start with prefix, CutPrefix returns s, false. If prefix is the empty string, CutPrefix returns s, true.": IT RETURNS '(Lib.trimPrefix s p, Lib.hasPrefix s p)'; the world is as it was. (LAID: no walk: one application.) -/
theorem Tryz.strings_CutPrefix (s p : ByteArray) (w : World) :
    Calls Tryz.prog 49 #[.string s, .string p] w fun e w' => e = .returned (.tuple #[.string ⟨(Lib.trimPrefix s.data.toList p.data.toList).toArray⟩, .bool (Lib.hasPrefix s.data.toList p.data.toList)]) ∧ w' = w := Any.strings_CutPrefix Tryz.lays103 s p w
open Go.RowKit in
/-- (*strings.Builder).String: "String returns the accumulated string.": WHATEVER THE BUILDER HOLDS; THE FORM '_k': OVER 'Lib.IsBuilderF' (a builder that 'String()' may have read), AND WITH THE FRAME THAT REACHES ABOVE THE BUILDER: 'Lib.OthersKept': every block that is not b and is no row of uint8's stands as it stood: the iterator of a range among them. (LAID: no walk: one application.) -/
theorem Tryz.Builder_String_any_k (B b : Nat) (l : List UInt8) (w : World) (h : Lib.IsBuilderF 84 5 B b (Lib.byteCells l) w) (hBw : B ≤ w.heap.size) :
    Calls Tryz.prog 30 #[.pointer (some ⟨b, 0, none⟩)] w fun e w' => e = .returned (.string ⟨l.toArray⟩) ∧ (Lib.IsBuilderF 84 5 B b (Lib.byteCells l) w' ∧ Below B w w' ∧ Lib.OthersKept 5 (some b) w w') := Any.Builder_String_any_k Tryz.lays169 Tryz.Builder_Extra_169 B b l w h hBw
def Tryz.laysM171_ren : Go.Shelf.Ren := ⟨fun | 171 => 40 | 243 => 52 | 246 => 61 | 283 => 73 | 284 => 74 | 285 => 75 | 286 => 76 | 129 => 84 | 317 => 83 | 318 => 85 | 319 => 86 | 320 => 87 | 337 => 97 | 338 => 98 | n => n, fun | 3 => 3 | 9 => 9 | 2 => 2 | 4 => 4 | 171 => 152 | 0 => 0 | 53 => 153 | 37 => 22 | 5 => 5 | 173 => 156 | 212 => 172 | 51 => 38 | 20 => 20 | 213 => 173 | 46 => 175 | 232 => 203 | 233 => 204 | n => n, fun | 17 => 2 | 18 => 5 | 19 => 6 | n => n⟩
theorem Tryz.laysM171 : Go.Proofs.LaysM.n171 Tryz.prog Tryz.laysM171_ren := {
  mixed := by kernel_rfl
  f129 := Tryz.func84.trans (congrArg some (by kernel_rfl))
  f171 := Tryz.func40.trans (congrArg some (by kernel_rfl))
  f243 := Tryz.func52.trans (congrArg some (by kernel_rfl))
  f246 := Tryz.func61.trans (congrArg some (by kernel_rfl))
  f283 := Tryz.func73.trans (congrArg some (by kernel_rfl))
  f284 := Tryz.func74.trans (congrArg some (by kernel_rfl))
  f285 := Tryz.func75.trans (congrArg some (by kernel_rfl))
  f286 := Tryz.func76.trans (congrArg some (by kernel_rfl))
  f317 := Tryz.func83.trans (congrArg some (by kernel_rfl))
  f318 := Tryz.func85.trans (congrArg some (by kernel_rfl))
  f319 := Tryz.func86.trans (congrArg some (by kernel_rfl))
  f320 := Tryz.func87.trans (congrArg some (by kernel_rfl))
  f337 := Tryz.func97.trans (congrArg some (by kernel_rfl))
  f338 := Tryz.func98.trans (congrArg some (by kernel_rfl))
  t0 := Tryz.underlying0
  a0 := Tryz.isAgg0
  z0 := Tryz.sizeOf0
  v0 := Tryz.zeroValue0
  t2 := Tryz.underlying2
  a2 := Tryz.isAgg2
  z2 := Tryz.sizeOf2
  v2 := Tryz.zeroValue2
  t3 := Tryz.underlying3
  a3 := Tryz.isAgg3
  z3 := Tryz.sizeOf3
  v3 := Tryz.zeroValue3
  t4 := Tryz.underlying4
  a4 := Tryz.isAgg4
  z4 := Tryz.sizeOf4
  v4 := Tryz.zeroValue4
  t5 := Tryz.underlying5
  a5 := Tryz.isAgg5
  z5 := Tryz.sizeOf5
  v5 := Tryz.zeroValue5
  t9 := Tryz.underlying9
  a9 := Tryz.isAgg9
  z9 := Tryz.sizeOf9
  v9 := Tryz.zeroValue9
  t20 := Tryz.underlying20
  a20 := Tryz.isAgg20
  z20 := Tryz.sizeOf20
  v20 := Tryz.zeroValue20
  t37 := Tryz.underlying22
  a37 := Tryz.isAgg22
  z37 := Tryz.sizeOf22
  v37 := Tryz.zeroValue22
  t46 := Tryz.underlying175
  a46 := Tryz.isAgg175
  z46 := Tryz.sizeOf175
  v46 := Tryz.zeroValue175
  t51 := Tryz.underlying38
  a51 := Tryz.isAgg38
  z51 := Tryz.sizeOf38
  v51 := Tryz.zeroValue38
  t53 := Tryz.underlying153
  a53 := Tryz.isAgg153
  z53 := Tryz.sizeOf153
  v53 := Tryz.zeroValue153
  t171 := Tryz.underlying152
  a171 := Tryz.isAgg152
  z171 := Tryz.sizeOf152
  v171 := Tryz.zeroValue152
  t173 := Tryz.underlying156
  a173 := Tryz.isAgg156
  z173 := Tryz.sizeOf156
  v173 := Tryz.zeroValue156
  t212 := Tryz.underlying172
  a212 := Tryz.isAgg172
  z212 := Tryz.sizeOf172
  v212 := Tryz.zeroValue172
  t213 := Tryz.underlying173
  a213 := Tryz.isAgg173
  z213 := Tryz.sizeOf173
  t232 := Tryz.underlying203
  a232 := Tryz.isAgg203
  z232 := Tryz.sizeOf203
  v232 := Tryz.zeroValue203
  t233 := Tryz.underlying204
  a233 := Tryz.isAgg204
  z233 := Tryz.sizeOf204
  v233 := Tryz.zeroValue204
  g17 := by kernel_rfl
  g18 := by kernel_rfl
  g19 := by kernel_rfl
  i0 := by kernel_rfl
  i2 := by kernel_rfl
  i3 := by kernel_rfl
  i4 := by kernel_rfl
  i5 := by kernel_rfl
  i9 := by kernel_rfl
  i20 := by kernel_rfl
  i37 := by kernel_rfl
  i46 := by kernel_rfl
  i51 := by kernel_rfl
  i53 := by kernel_rfl
  i171 := by kernel_rfl
  i173 := by kernel_rfl
  i212 := by kernel_rfl
  i232 := by kernel_rfl
  i233 := by kernel_rfl
  m17 := by kernel_rfl
  m18 := by kernel_rfl
  m19 := by kernel_rfl }
open Go.RowKit Go.Sort Go.Lib in
/-- strconv.Itoa: "Itoa is equivalent to FormatInt(int64(i), 10).": i's DECIMAL NUMERAL ('Lib.itoa': a '-' where i is negative, then the digits), FOR EVERY int. The world behind the call: the world before it, new blocks behind the heap (the library's 'var a [24]byte'), draws. (LAID: no walk: one application.) -/
theorem Tryz.strconv_Itoa (n : Int) (h0 : -9223372036854775808 ≤ n) (h1 : n ≤ 9223372036854775807) (w : World) (htab : Lib.TabIs Tryz.prog w "internal/strconv.uint64pow10" .u64 Lib.pow10Tab) :
    Calls Tryz.prog 40 #[.int .i64 n] w fun e w' => e = .returned (.string ⟨(Lib.itoa n).toArray⟩) ∧ ∃ k os, w' = grow (w.drewN k) os := Any.strconv_Itoa Tryz.laysM171 n h0 h1 w htab
def Tryz.laysC172_ren : Go.Shelf.Ren := ⟨fun | 172 => 77 | 244 => 88 | 245 => 89 | 247 => 99 | 279 => 100 | 280 => 101 | 281 => 102 | 282 => 103 | 287 => 113 | 316 => 114 | 171 => 40 | 205 => 22 | 321 => 120 | 322 => 121 | 243 => 52 | 246 => 61 | 283 => 73 | 284 => 74 | 285 => 75 | 286 => 76 | 129 => 84 | 317 => 83 | 318 => 85 | 319 => 86 | 320 => 87 | 337 => 97 | 338 => 98 | n => n, fun | 9 => 9 | 3 => 3 | 75 => 51 | 76 => 93 | 4 => 4 | 5 => 5 | 167 => 186 | 37 => 22 | 0 => 0 | 85 => 187 | 2 => 2 | 168 => 189 | 53 => 153 | 175 => 205 | 46 => 175 | 210 => 208 | 127 => 129 | 145 => 98 | 143 => 96 | 21 => 21 | 171 => 152 | 173 => 156 | 212 => 172 | 51 => 38 | 20 => 20 | 213 => 173 | 232 => 203 | 233 => 204 | 80 => 58 | n => n, fun | 15 => 7 | 16 => 8 | 17 => 2 | 18 => 5 | 19 => 6 | n => n⟩
theorem Tryz.laysC172 : Go.Proofs.LaysC.n172 Tryz.prog Tryz.laysC172_ren := {
  mixed := by kernel_rfl
  f129 := Tryz.func84.trans (congrArg some (by kernel_rfl))
  f171 := Tryz.func40.trans (congrArg some (by kernel_rfl))
  f172 := Tryz.func77.trans (congrArg some (by kernel_rfl))
  f205 := Tryz.func22.trans (congrArg some (by kernel_rfl))
  f243 := Tryz.func52.trans (congrArg some (by kernel_rfl))
  f244 := Tryz.func88.trans (congrArg some (by kernel_rfl))
  f245 := Tryz.func89.trans (congrArg some (by kernel_rfl))
  f246 := Tryz.func61.trans (congrArg some (by kernel_rfl))
  f247 := Tryz.func99.trans (congrArg some (by kernel_rfl))
  f279 := Tryz.func100.trans (congrArg some (by kernel_rfl))
  f280 := Tryz.func101.trans (congrArg some (by kernel_rfl))
  f281 := Tryz.func102.trans (congrArg some (by kernel_rfl))
  f282 := Tryz.func103.trans (congrArg some (by kernel_rfl))
  f283 := Tryz.func73.trans (congrArg some (by kernel_rfl))
  f284 := Tryz.func74.trans (congrArg some (by kernel_rfl))
  f285 := Tryz.func75.trans (congrArg some (by kernel_rfl))
  f286 := Tryz.func76.trans (congrArg some (by kernel_rfl))
  f287 := Tryz.func113.trans (congrArg some (by kernel_rfl))
  f316 := Tryz.func114.trans (congrArg some (by kernel_rfl))
  f317 := Tryz.func83.trans (congrArg some (by kernel_rfl))
  f318 := Tryz.func85.trans (congrArg some (by kernel_rfl))
  f319 := Tryz.func86.trans (congrArg some (by kernel_rfl))
  f320 := Tryz.func87.trans (congrArg some (by kernel_rfl))
  f321 := Tryz.func120.trans (congrArg some (by kernel_rfl))
  f322 := Tryz.func121.trans (congrArg some (by kernel_rfl))
  f337 := Tryz.func97.trans (congrArg some (by kernel_rfl))
  f338 := Tryz.func98.trans (congrArg some (by kernel_rfl))
  t0 := Tryz.underlying0
  a0 := Tryz.isAgg0
  z0 := Tryz.sizeOf0
  v0 := Tryz.zeroValue0
  t2 := Tryz.underlying2
  a2 := Tryz.isAgg2
  z2 := Tryz.sizeOf2
  v2 := Tryz.zeroValue2
  t3 := Tryz.underlying3
  a3 := Tryz.isAgg3
  z3 := Tryz.sizeOf3
  v3 := Tryz.zeroValue3
  t4 := Tryz.underlying4
  a4 := Tryz.isAgg4
  z4 := Tryz.sizeOf4
  v4 := Tryz.zeroValue4
  t5 := Tryz.underlying5
  a5 := Tryz.isAgg5
  z5 := Tryz.sizeOf5
  v5 := Tryz.zeroValue5
  t9 := Tryz.underlying9
  a9 := Tryz.isAgg9
  z9 := Tryz.sizeOf9
  v9 := Tryz.zeroValue9
  t20 := Tryz.underlying20
  a20 := Tryz.isAgg20
  z20 := Tryz.sizeOf20
  v20 := Tryz.zeroValue20
  t21 := Tryz.underlying21
  a21 := Tryz.isAgg21
  z21 := Tryz.sizeOf21
  v21 := Tryz.zeroValue21
  t37 := Tryz.underlying22
  a37 := Tryz.isAgg22
  z37 := Tryz.sizeOf22
  v37 := Tryz.zeroValue22
  t46 := Tryz.underlying175
  a46 := Tryz.isAgg175
  z46 := Tryz.sizeOf175
  v46 := Tryz.zeroValue175
  t51 := Tryz.underlying38
  a51 := Tryz.isAgg38
  z51 := Tryz.sizeOf38
  v51 := Tryz.zeroValue38
  t53 := Tryz.underlying153
  a53 := Tryz.isAgg153
  z53 := Tryz.sizeOf153
  v53 := Tryz.zeroValue153
  t75 := Tryz.underlying51
  a75 := Tryz.isAgg51
  z75 := Tryz.sizeOf51
  v75 := Tryz.zeroValue51
  t76 := Tryz.underlying93
  a76 := Tryz.isAgg93
  z76 := Tryz.sizeOf93
  v76 := Tryz.zeroValue93
  t85 := Tryz.underlying187
  a85 := Tryz.isAgg187
  z85 := Tryz.sizeOf187
  v85 := Tryz.zeroValue187
  t127 := Tryz.underlying129
  a127 := Tryz.isAgg129
  z127 := Tryz.sizeOf129
  v127 := Tryz.zeroValue129
  t143 := Tryz.underlying96
  a143 := Tryz.isAgg96
  z143 := Tryz.sizeOf96
  v143 := Tryz.zeroValue96
  t145 := Tryz.underlying98
  a145 := Tryz.isAgg98
  z145 := Tryz.sizeOf98
  v145 := Tryz.zeroValue98
  t167 := Tryz.underlying186
  a167 := Tryz.isAgg186
  z167 := Tryz.sizeOf186
  v167 := Tryz.zeroValue186
  t168 := Tryz.underlying189
  a168 := Tryz.isAgg189
  z168 := Tryz.sizeOf189
  v168 := Tryz.zeroValue189
  t171 := Tryz.underlying152
  a171 := Tryz.isAgg152
  z171 := Tryz.sizeOf152
  v171 := Tryz.zeroValue152
  t173 := Tryz.underlying156
  a173 := Tryz.isAgg156
  z173 := Tryz.sizeOf156
  v173 := Tryz.zeroValue156
  t175 := Tryz.underlying205
  a175 := Tryz.isAgg205
  z175 := Tryz.sizeOf205
  v175 := Tryz.zeroValue205
  t210 := Tryz.underlying208
  a210 := Tryz.isAgg208
  z210 := Tryz.sizeOf208
  v210 := Tryz.zeroValue208
  t212 := Tryz.underlying172
  a212 := Tryz.isAgg172
  z212 := Tryz.sizeOf172
  v212 := Tryz.zeroValue172
  t213 := Tryz.underlying173
  a213 := Tryz.isAgg173
  z213 := Tryz.sizeOf173
  t232 := Tryz.underlying203
  a232 := Tryz.isAgg203
  z232 := Tryz.sizeOf203
  v232 := Tryz.zeroValue203
  t233 := Tryz.underlying204
  a233 := Tryz.isAgg204
  z233 := Tryz.sizeOf204
  v233 := Tryz.zeroValue204
  g15 := by kernel_rfl
  g16 := by kernel_rfl
  g17 := by kernel_rfl
  g18 := by kernel_rfl
  g19 := by kernel_rfl
  t80 := Tryz.underlying58
  a80 := Tryz.isAgg58
  z80 := Tryz.sizeOf58
  v80 := Tryz.zeroValue58
  i0 := by kernel_rfl
  i2 := by kernel_rfl
  i3 := by kernel_rfl
  i4 := by kernel_rfl
  i5 := by kernel_rfl
  i9 := by kernel_rfl
  i20 := by kernel_rfl
  i21 := by kernel_rfl
  i37 := by kernel_rfl
  i46 := by kernel_rfl
  i51 := by kernel_rfl
  i53 := by kernel_rfl
  i75 := by kernel_rfl
  i76 := by kernel_rfl
  i80 := by kernel_rfl
  i85 := by kernel_rfl
  i127 := by kernel_rfl
  i143 := by kernel_rfl
  i145 := by kernel_rfl
  i167 := by kernel_rfl
  i168 := by kernel_rfl
  i171 := by kernel_rfl
  i173 := by kernel_rfl
  i175 := by kernel_rfl
  i210 := by kernel_rfl
  i212 := by kernel_rfl
  i232 := by kernel_rfl
  i233 := by kernel_rfl
  m15 := by kernel_rfl
  m16 := by kernel_rfl
  m17 := by kernel_rfl
  m18 := by kernel_rfl
  m19 := by kernel_rfl
  c0 := by kernel_rfl
  c2 := by kernel_rfl
  c3 := by kernel_rfl
  c4 := by kernel_rfl
  c5 := by kernel_rfl
  c9 := by kernel_rfl
  c20 := by kernel_rfl
  c21 := by kernel_rfl
  c37 := by kernel_rfl
  c46 := by kernel_rfl
  c51 := by kernel_rfl
  c53 := by kernel_rfl
  c75 := by kernel_rfl
  c76 := by kernel_rfl
  c80 := by kernel_rfl
  c85 := by kernel_rfl
  c127 := by kernel_rfl
  c143 := by kernel_rfl
  c145 := by kernel_rfl
  c167 := by kernel_rfl
  c168 := by kernel_rfl
  c171 := by kernel_rfl
  c173 := by kernel_rfl
  c175 := by kernel_rfl
  c210 := by kernel_rfl
  c212 := by kernel_rfl
  c213 := by kernel_rfl
  c232 := by kernel_rfl
  c233 := by kernel_rfl }
open Go.RowKit in
/-- strconv.Atoi, AT EVERY STRING THAT SPELLS AN int ('Lib.atoiAll .. = .ok v'; of whatever length: leading zeros count): v, AND NO ERROR. The world: as it was, or with the one new row that '[]byte(..)' lays. (LAID: no walk: one application.) -/
theorem Tryz.strconv_Atoi_ok (s : ByteArray) (hmax : s.size ≤ 9223372036854775806) (v : Int) (h : Lib.atoiAll s.data.toList = .ok v) (w : World) :
    Calls Tryz.prog 77 #[.string s] w fun e w' => e = .returned (.tuple #[.int .i64 v, .nilIface]) ∧ (w' = w ∨ ∃ t, w' = Lib.bytesWorld w 5 t) := Any.strconv_Atoi_ok Tryz.laysC172 s hmax v h w
open Go.RowKit in
theorem Tryz.strconv_Atoi_syntax_var (s : ByteArray) (hlim : s.size ≤ 281474976710656) (h : Lib.atoiAll s.data.toList = Lib.atoiAll []) (tp : TypeId) (p : Value) (w : World) (hvar : w.var? Tryz.prog "strconv.ErrSyntax" = some #[.iface tp p]) :
    Calls Tryz.prog 77 #[.string s] w fun e w' => ∃ N, e = .returned (.tuple #[.int .i64 0, .iface 189 (.pointer (some ⟨N, 0, none⟩))]) ∧ w.heap.size ≤ N ∧ w'.heap[N]? = some (.cells #[.string ⟨#[65, 116, 111, 105]⟩, .string s, .iface tp p] 208 (0, 0)) ∧ Below w.heap.size w w' := Any.strconv_Atoi_syntax_var Tryz.laysC172 s hlim h tp p w hvar
open Go.RowKit in
theorem Tryz.strconv_Atoi_range_var (s : ByteArray) (hlim : s.size ≤ 281474976710656) (h : Lib.atoiAll s.data.toList = .range) (tp : TypeId) (p : Value) (w : World) (hvar : w.var? Tryz.prog "strconv.ErrRange" = some #[.iface tp p]) :
    Calls Tryz.prog 77 #[.string s] w fun e w' => ∃ N, e = .returned (.tuple #[.int .i64 (Lib.atoiSat s.data.toList), .iface 189 (.pointer (some ⟨N, 0, none⟩))]) ∧ w.heap.size ≤ N ∧ w'.heap[N]? = some (.cells #[.string ⟨#[65, 116, 111, 105]⟩, .string s, .iface tp p] 208 (0, 0)) ∧ Below w.heap.size w w' := Any.strconv_Atoi_range_var Tryz.laysC172 s hlim h tp p w hvar
def Tryz.lays272_ren : Go.Shelf.Ren := ⟨fun | 272 => 90 | 315 => 104 | n => n, fun | 9 => 9 | 40 => 100 | 4 => 4 | 3 => 3 | 0 => 0 | 21 => 21 | n => n, fun | n => n⟩
theorem Tryz.lays272 : Go.Proofs.Lays.n272 Tryz.prog Tryz.lays272_ren := {
  mixed := by kernel_rfl
  f272 := Tryz.func90.trans (congrArg some (by kernel_rfl))
  f315 := Tryz.func104.trans (congrArg some (by kernel_rfl))
  t0 := Tryz.underlying0
  a0 := Tryz.isAgg0
  z0 := Tryz.sizeOf0
  v0 := Tryz.zeroValue0
  t3 := Tryz.underlying3
  a3 := Tryz.isAgg3
  z3 := Tryz.sizeOf3
  v3 := Tryz.zeroValue3
  t4 := Tryz.underlying4
  a4 := Tryz.isAgg4
  z4 := Tryz.sizeOf4
  v4 := Tryz.zeroValue4
  t9 := Tryz.underlying9
  a9 := Tryz.isAgg9
  z9 := Tryz.sizeOf9
  v9 := Tryz.zeroValue9
  t21 := Tryz.underlying21
  a21 := Tryz.isAgg21
  z21 := Tryz.sizeOf21
  v21 := Tryz.zeroValue21
  t40 := Tryz.underlying100
  a40 := Tryz.isAgg100
  z40 := Tryz.sizeOf100
  v40 := Tryz.zeroValue100 }
def Tryz.lays199_ren : Go.Shelf.Ren := ⟨fun | 199 => 91 | 261 => 105 | 311 => 115 | 312 => 116 | n => n, fun | 21 => 21 | 4 => 4 | 51 => 38 | 141 => 194 | 0 => 0 | 196 => 212 | 193 => 209 | 3 => 3 | 198 => 215 | 49 => 213 | 194 => 210 | 201 => 218 | 226 => 223 | 46 => 175 | 227 => 224 | n => n, fun | 6 => 4 | n => n⟩
theorem Tryz.lays199 : Go.Proofs.Lays.n199 Tryz.prog Tryz.lays199_ren := {
  mixed := by kernel_rfl
  f199 := Tryz.func91.trans (congrArg some (by kernel_rfl))
  f261 := Tryz.func105.trans (congrArg some (by kernel_rfl))
  f311 := Tryz.func115.trans (congrArg some (by kernel_rfl))
  f312 := Tryz.func116.trans (congrArg some (by kernel_rfl))
  t0 := Tryz.underlying0
  a0 := Tryz.isAgg0
  z0 := Tryz.sizeOf0
  v0 := Tryz.zeroValue0
  t3 := Tryz.underlying3
  a3 := Tryz.isAgg3
  z3 := Tryz.sizeOf3
  v3 := Tryz.zeroValue3
  t4 := Tryz.underlying4
  a4 := Tryz.isAgg4
  z4 := Tryz.sizeOf4
  v4 := Tryz.zeroValue4
  t21 := Tryz.underlying21
  a21 := Tryz.isAgg21
  z21 := Tryz.sizeOf21
  v21 := Tryz.zeroValue21
  t46 := Tryz.underlying175
  a46 := Tryz.isAgg175
  z46 := Tryz.sizeOf175
  v46 := Tryz.zeroValue175
  t49 := Tryz.underlying213
  a49 := Tryz.isAgg213
  z49 := Tryz.sizeOf213
  v49 := Tryz.zeroValue213
  t51 := Tryz.underlying38
  a51 := Tryz.isAgg38
  z51 := Tryz.sizeOf38
  v51 := Tryz.zeroValue38
  t141 := Tryz.underlying194
  a141 := Tryz.isAgg194
  z141 := Tryz.sizeOf194
  v141 := Tryz.zeroValue194
  t193 := Tryz.underlying209
  a193 := Tryz.isAgg209
  z193 := Tryz.sizeOf209
  v193 := Tryz.zeroValue209
  t194 := Tryz.underlying210
  a194 := Tryz.isAgg210
  z194 := Tryz.sizeOf210
  v194 := Tryz.zeroValue210
  t196 := Tryz.underlying212
  a196 := Tryz.isAgg212
  z196 := Tryz.sizeOf212
  v196 := Tryz.zeroValue212
  t198 := Tryz.underlying215
  a198 := Tryz.isAgg215
  z198 := Tryz.sizeOf215
  v198 := Tryz.zeroValue215
  t201 := Tryz.underlying218
  a201 := Tryz.isAgg218
  z201 := Tryz.sizeOf218
  v201 := Tryz.zeroValue218
  t226 := Tryz.underlying223
  a226 := Tryz.isAgg223
  z226 := Tryz.sizeOf223
  v226 := Tryz.zeroValue223
  t227 := Tryz.underlying224
  a227 := Tryz.isAgg224
  z227 := Tryz.sizeOf224
  v227 := Tryz.zeroValue224
  g6 := by kernel_rfl }
open Go.RowKit Go.Lib in
/-- **unicode.IsSpace AT EVERY int32.** (LAID: no walk: one application.) -/
theorem Tryz.unicode_IsSpace_any (r : Int) (w : World) (hlo : -2147483648 ≤ r) (hhi : r ≤ 2147483647) (hW : Lib.WhiteTab 4 w) :
    Calls Tryz.prog 91 #[.int .i32 r] w fun e w' => e = .returned (.bool (Lib.isSpaceZ r)) ∧ Below w.heap.size w w' := Any.unicode_IsSpace_any Tryz.lays199 r w hlo hhi hW
open Go.RowKit Go.Lib in
theorem Tryz.strings_TrimLeftFunc_grows (g : Nat) (lb : Array Value) (eg : ∀ args w, (callFunc g args).run Tryz.prog w = .ok (.enter g args) w) (p : Nat → Bool) (s : ByteArray) (w : World) (hp : PredGrows Tryz.prog g lb p w) :
    Calls Tryz.prog 90 #[.string s, .func (.func g) #[] lb] w fun e w' => e = .returned (.string (Lib.trimLeftF p s)) ∧ Below w.heap.size w w' := Any.strings_TrimLeftFunc_grows Tryz.lays272 g lb eg p s w hp
def Tryz.lays167_ren : Go.Shelf.Ren := ⟨fun | 167 => 48 | 240 => 55 | 276 => 64 | n => n, fun | 0 => 0 | 4 => 4 | 5 => 5 | 9 => 9 | 20 => 20 | 37 => 22 | 70 => 82 | 72 => 84 | 75 => 51 | 80 => 58 | 164 => 145 | n => n, fun | n => n⟩
theorem Tryz.lays167 : Go.Proofs.Lays.n167 Tryz.prog Tryz.lays167_ren := {
  mixed := by kernel_rfl
  f167 := Tryz.func48.trans (congrArg some (by kernel_rfl))
  f240 := Tryz.func55.trans (congrArg some (by kernel_rfl))
  f276 := Tryz.func64.trans (congrArg some (by kernel_rfl))
  t0 := Tryz.underlying0
  a0 := Tryz.isAgg0
  z0 := Tryz.sizeOf0
  v0 := Tryz.zeroValue0
  t4 := Tryz.underlying4
  a4 := Tryz.isAgg4
  z4 := Tryz.sizeOf4
  v4 := Tryz.zeroValue4
  t5 := Tryz.underlying5
  a5 := Tryz.isAgg5
  z5 := Tryz.sizeOf5
  v5 := Tryz.zeroValue5
  t9 := Tryz.underlying9
  a9 := Tryz.isAgg9
  z9 := Tryz.sizeOf9
  v9 := Tryz.zeroValue9
  t20 := Tryz.underlying20
  a20 := Tryz.isAgg20
  z20 := Tryz.sizeOf20
  v20 := Tryz.zeroValue20
  t37 := Tryz.underlying22
  a37 := Tryz.isAgg22
  z37 := Tryz.sizeOf22
  v37 := Tryz.zeroValue22
  t70 := Tryz.underlying82
  a70 := Tryz.isAgg82
  z70 := Tryz.sizeOf82
  v70 := Tryz.zeroValue82
  t72 := Tryz.underlying84
  a72 := Tryz.isAgg84
  z72 := Tryz.sizeOf84
  v72 := Tryz.zeroValue84
  t75 := Tryz.underlying51
  a75 := Tryz.isAgg51
  z75 := Tryz.sizeOf51
  v75 := Tryz.zeroValue51
  t164 := Tryz.underlying145
  a164 := Tryz.isAgg145
  z164 := Tryz.sizeOf145
  v164 := Tryz.zeroValue145 }
theorem Tryz.Builder_Extra_167 : Builder.Extra Tryz.prog Tryz.lays167_ren := {
  sizeBuilder := by kernel_rfl
  liesBuilder := by kernel_rfl
  t5 := Tryz.underlying5
  a5 := Tryz.isAgg5
  z5 := Tryz.sizeOf5
  v5 := Tryz.zeroValue5
  infoByte := by kernel_rfl
  cellsByte := by kernel_rfl
  sizeByte := by kernel_rfl
  neB5 := by decide }
def Tryz.lays166_ren : Go.Shelf.Ren := ⟨fun | 166 => 47 | 240 => 55 | 276 => 64 | n => n, fun | 0 => 0 | 3 => 3 | 4 => 4 | 5 => 5 | 9 => 9 | 20 => 20 | 37 => 22 | 70 => 82 | 72 => 84 | 75 => 51 | 80 => 58 | 164 => 145 | n => n, fun | n => n⟩
theorem Tryz.lays166 : Go.Proofs.Lays.n166 Tryz.prog Tryz.lays166_ren := {
  mixed := by kernel_rfl
  f166 := Tryz.func47.trans (congrArg some (by kernel_rfl))
  f240 := Tryz.func55.trans (congrArg some (by kernel_rfl))
  f276 := Tryz.func64.trans (congrArg some (by kernel_rfl))
  t0 := Tryz.underlying0
  a0 := Tryz.isAgg0
  z0 := Tryz.sizeOf0
  v0 := Tryz.zeroValue0
  t3 := Tryz.underlying3
  a3 := Tryz.isAgg3
  z3 := Tryz.sizeOf3
  v3 := Tryz.zeroValue3
  t4 := Tryz.underlying4
  a4 := Tryz.isAgg4
  z4 := Tryz.sizeOf4
  v4 := Tryz.zeroValue4
  t9 := Tryz.underlying9
  a9 := Tryz.isAgg9
  z9 := Tryz.sizeOf9
  v9 := Tryz.zeroValue9
  t20 := Tryz.underlying20
  a20 := Tryz.isAgg20
  z20 := Tryz.sizeOf20
  v20 := Tryz.zeroValue20
  t37 := Tryz.underlying22
  a37 := Tryz.isAgg22
  z37 := Tryz.sizeOf22
  v37 := Tryz.zeroValue22
  t70 := Tryz.underlying82
  a70 := Tryz.isAgg82
  z70 := Tryz.sizeOf82
  v70 := Tryz.zeroValue82
  t72 := Tryz.underlying84
  a72 := Tryz.isAgg84
  z72 := Tryz.sizeOf84
  v72 := Tryz.zeroValue84
  t75 := Tryz.underlying51
  a75 := Tryz.isAgg51
  z75 := Tryz.sizeOf51
  v75 := Tryz.zeroValue51
  t164 := Tryz.underlying145
  a164 := Tryz.isAgg145
  z164 := Tryz.sizeOf145
  v164 := Tryz.zeroValue145 }
theorem Tryz.Builder_Extra_166 : Builder.Extra Tryz.prog Tryz.lays166_ren := {
  sizeBuilder := by kernel_rfl
  liesBuilder := by kernel_rfl
  t5 := Tryz.underlying5
  a5 := Tryz.isAgg5
  z5 := Tryz.sizeOf5
  v5 := Tryz.zeroValue5
  infoByte := by kernel_rfl
  cellsByte := by kernel_rfl
  sizeByte := by kernel_rfl
  neB5 := by decide }
open Go.RowKit in
/-- (*strings.Builder).WriteByte: "WriteByte appends the byte c to b's buffer. The returned error is always nil.": UNDER Go's OWN LIMIT: the new length takes at most 2^47 bytes. (LAID: no walk: one application.) -/
theorem Tryz.Builder_WriteByte_k (B b : Nat) (bs : List Value) (c : Int) (w : World) (h : Lib.IsBuilderF 84 5 B b bs w) (hlen : bs.length + 1 ≤ 140737488355328) (hBw : B ≤ w.heap.size) :
    Calls Tryz.prog 48 #[.pointer (some ⟨b, 0, none⟩), .int .u8 c] w fun e w' => e = .returned .nilIface ∧ (Lib.BuilderAtF 84 5 B b (.pointer (some ⟨b, 0, none⟩)) (bs ++ [.int .u8 c]) w' ∧ Below B w w' ∧ Lib.OthersKept 5 (some b) w w') := Any.Builder_WriteByte_k Tryz.lays167 Tryz.Builder_Extra_167 B b bs c w h hlen hBw
open Go.RowKit in
/-- (*strings.Builder).WriteString: "WriteString appends the contents of s to b's buffer. It returns the length of s and a nil error.": UNDER Go's OWN LIMIT: the new length takes at most 2^47 bytes. THE FORM '_k': OVER 'Lib.IsBuilderF' (a builder that 'String()' may have read), AND WITH THE FRAME THAT REACHES ABOVE THE BUILDER: 'Lib.OthersKept': every block that is not b and is no row of uint8's stands as it stood: the iterator of a range among them.' HAS READ, TOO: the bytes go in BEHIND what is frozen, or, where there is no room, all goes over into a new row.) (LAID: no walk: one application.) -/
theorem Tryz.Builder_WriteString_k (B b : Nat) (bs : List Value) (s : ByteArray) (w : World) (h : Lib.IsBuilderF 84 5 B b bs w) (hlen : bs.length + s.size ≤ 140737488355328) (hBw : B ≤ w.heap.size) :
    Calls Tryz.prog 47 #[.pointer (some ⟨b, 0, none⟩), .string s] w fun e w' => e = .returned (.tuple #[.int .i64 s.size, .nilIface]) ∧ (Lib.BuilderAtF 84 5 B b (.pointer (some ⟨b, 0, none⟩)) (bs ++ Lib.strCells s) w' ∧ Below B w w' ∧ Lib.OthersKept 5 (some b) w w') := Any.Builder_WriteString_k Tryz.lays166 Tryz.Builder_Extra_166 B b bs s w h hlen hBw
end Go.Proofs
