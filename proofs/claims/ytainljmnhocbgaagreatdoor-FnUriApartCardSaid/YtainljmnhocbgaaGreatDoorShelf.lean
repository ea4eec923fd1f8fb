/-
  DERIVED: THE SHELF's CONTRACTS AT THIS DUMP, IN PLAIN WORDS (tools/lay-plain.mjs out of 'TryzShelf.lean', which tools/lay-shelf.mjs wrote): THE SAME DECLARATIONS UNDER THE SAME NAMES: 'import', 'namespace', 'open', 'def', 'theorem' AND NOTHING ELSE: no command of the shelf's: FOR A HAND-IN. Each laying: the table of numbers ('.._ren') and one theorem, a field a fact of the dump's own or the kernel's comparison; each contract: ONE APPLICATION.
-/
import Derived.Shelf.Strings.Builder1
import Derived.Shelf.Strings.Builder2
import Derived.Shelf.Small.Wraps
import Derived.Shelf.Strings.BuilderF
import Derived.Shelf.Strings.BuilderK
import Derived.Shelf.Strings.Builder2Cap
import Derived.Shelf.Strconv.Atoi
import Derived.Shelf.Strconv.Itoa0
import Derived.Shelf.Strconv.Itoa1
import Derived.Shelf.LaysM
import Derived.Shelf.Strconv.Itoa2
import Derived.Shelf.Strconv.Itoa3
import Derived.Shelf.Strconv.AtoiErrFast
import Derived.Shelf.Strconv.ParseIntEmpty
import Derived.Shelf.Strconv.AtoiFail
import Derived.Shelf.Strconv.Clone
import Derived.Shelf.Strconv.SyntaxError
import Derived.Shelf.LaysC
import Derived.Shelf.Strconv.ToError
import Derived.Shelf.Strconv.AtoiErr
import Derived.Shelf.Strconv.Lower
import Derived.Shelf.Strconv.ParseUint10
import Derived.Shelf.Strconv.ParseUint10Empty
import Derived.Shelf.Strconv.ParseUint10Any
import Derived.Shelf.Strconv.ParseInt10
import Derived.Shelf.Strconv.AtoiLong
import Derived.Shelf.Strconv.AtoiInnerAll
import Derived.Shelf.Strconv.RangeError
import Derived.Shelf.Strconv.ToErrorRange
import Derived.Shelf.Strconv.AtoiAll
import Derived.Shelf.Strconv.ErrVarAll
import Derived.Shelf.GgClosure.StringsIndexFunc
import Derived.Shelf.GgClosure.StringsTrimFunc
import Derived.Shelf.GgClosure.StringsRunes
import Derived.Shelf.Strings.Prefix
import Derived.Shelf.Unicode.Latin
import Derived.Shelf.Unicode.Is16White
import Derived.Shelf.Unicode.IsSpaceAny
import Derived.Shelf.Strings.FuncGrows
import Derived.Shelf.Strings.BuilderCap
import Derived.Test.YtainljmnhocbgaaGreatDoorProg
namespace Go.Proofs
open Go.Shelf
def Tryz.lays169_ren : Go.Shelf.Ren := ⟨fun | 169 => 70 | n => n, fun | 70 => 96 | 9 => 9 | 0 => 0 | 72 => 98 | 37 => 22 | 127 => 132 | 3 => 3 | 5 => 5 | n => n, fun | n => n⟩
theorem Tryz.lays169 : Go.Proofs.Lays.n169 Tryz.prog Tryz.lays169_ren := {
  mixed := by kernel_rfl
  f169 := Tryz.func70.trans (congrArg some (by kernel_rfl))
  t0 := Tryz.underlying0
  a0 := Tryz.isAgg0
  z0 := Tryz.sizeOf0
  v0 := Tryz.zeroValue0
  t3 := Tryz.underlying3
  a3 := Tryz.isAgg3
  z3 := Tryz.sizeOf3
  v3 := Tryz.zeroValue3
  t9 := Tryz.underlying9
  a9 := Tryz.isAgg9
  z9 := Tryz.sizeOf9
  v9 := Tryz.zeroValue9
  t37 := Tryz.underlying22
  a37 := Tryz.isAgg22
  z37 := Tryz.sizeOf22
  v37 := Tryz.zeroValue22
  t70 := Tryz.underlying96
  a70 := Tryz.isAgg96
  z70 := Tryz.sizeOf96
  v70 := Tryz.zeroValue96
  t72 := Tryz.underlying98
  a72 := Tryz.isAgg98
  z72 := Tryz.sizeOf98
  v72 := Tryz.zeroValue98
  t127 := Tryz.underlying132
  a127 := Tryz.isAgg132
  z127 := Tryz.sizeOf132
  v127 := Tryz.zeroValue132 }
theorem Tryz.Builder_Extra_169 : Builder.Extra Tryz.prog Tryz.lays169_ren := {
  sizeBuilder := by kernel_rfl
  liesBuilder := by kernel_rfl
  t5 := Tryz.underlying5
  a5 := Tryz.isAgg5
  z5 := Tryz.sizeOf5
  v5 := Tryz.zeroValue5
  infoByte := by kernel_rfl
  cellsByte := by kernel_rfl
  sizeByte := by kernel_rfl
  neB5 := by decide }
def Tryz.lays165_ren : Go.Shelf.Ren := ⟨fun | 165 => 89 | 240 => 99 | 241 => 100 | 276 => 110 | 277 => 111 | n => n, fun | 70 => 96 | 3 => 3 | 0 => 0 | 4 => 4 | 9 => 9 | 20 => 20 | 72 => 98 | 37 => 22 | 164 => 173 | 5 => 5 | n => n, fun | n => n⟩
theorem Tryz.lays165 : Go.Proofs.Lays.n165 Tryz.prog Tryz.lays165_ren := {
  mixed := by kernel_rfl
  f165 := Tryz.func89.trans (congrArg some (by kernel_rfl))
  f240 := Tryz.func99.trans (congrArg some (by kernel_rfl))
  f241 := Tryz.func100.trans (congrArg some (by kernel_rfl))
  f276 := Tryz.func110.trans (congrArg some (by kernel_rfl))
  f277 := Tryz.func111.trans (congrArg some (by kernel_rfl))
  t0 := Tryz.underlying0
  a0 := Tryz.isAgg0
  z0 := Tryz.sizeOf0
  v0 := Tryz.zeroValue0
  t3 := Tryz.underlying3
  a3 := Tryz.isAgg3
  z3 := Tryz.sizeOf3
  v3 := Tryz.zeroValue3
  t4 := Tryz.underlying4
  a4 := Tryz.isAgg4
  z4 := Tryz.sizeOf4
  v4 := Tryz.zeroValue4
  t9 := Tryz.underlying9
  a9 := Tryz.isAgg9
  z9 := Tryz.sizeOf9
  v9 := Tryz.zeroValue9
  t20 := Tryz.underlying20
  a20 := Tryz.isAgg20
  z20 := Tryz.sizeOf20
  v20 := Tryz.zeroValue20
  t37 := Tryz.underlying22
  a37 := Tryz.isAgg22
  z37 := Tryz.sizeOf22
  v37 := Tryz.zeroValue22
  t70 := Tryz.underlying96
  a70 := Tryz.isAgg96
  z70 := Tryz.sizeOf96
  v70 := Tryz.zeroValue96
  t72 := Tryz.underlying98
  a72 := Tryz.isAgg98
  z72 := Tryz.sizeOf98
  v72 := Tryz.zeroValue98
  t164 := Tryz.underlying173
  a164 := Tryz.isAgg173
  z164 := Tryz.sizeOf173
  v164 := Tryz.zeroValue173 }
theorem Tryz.Builder_Extra_165 : Builder.Extra Tryz.prog Tryz.lays165_ren := {
  sizeBuilder := by kernel_rfl
  liesBuilder := by kernel_rfl
  t5 := Tryz.underlying5
  a5 := Tryz.isAgg5
  z5 := Tryz.sizeOf5
  v5 := Tryz.zeroValue5
  infoByte := by kernel_rfl
  cellsByte := by kernel_rfl
  sizeByte := by kernel_rfl
  neB5 := by decide }
open Go.RowKit in
/-- (*strings.Builder).Grow AT A BUILDER THAT HAS NOT BEEN WRITTEN ('var b strings.Builder; b.Grow(n)'): "Grow grows b's capacity, if necessary, to guarantee space for another n bytes.": it holds no byte behind it as before it. (LAID: no walk: one application.) -/
theorem Tryz.Builder_Grow_fresh (B b n : Nat) (w : World) (hB : B ≤ b) (hbk : w.heap[b]? = some (.cells #[.pointer none, .slice none 0 0] 98 (0, 0))) (hBw : B ≤ w.heap.size) (hn : n ≤ 281474976710656) :
    Calls Tryz.prog 89 #[.pointer (some ⟨b, 0, none⟩), .int .i64 n] w fun e w' => e = .returned (.tuple #[]) ∧ (Lib.BuilderAt 98 5 B b (.pointer (some ⟨b, 0, none⟩)) [] w' ∧ Below B w w') := Any.Builder_Grow_fresh Tryz.lays165 Tryz.Builder_Extra_165 B b n w hB hbk hBw hn
def Tryz.lays103_ren : Go.Shelf.Ren := ⟨fun | 103 => 92 | 210 => 101 | 206 => 112 | n => n, fun | 9 => 9 | 4 => 4 | 24 => 157 | 3 => 3 | n => n, fun | n => n⟩
theorem Tryz.lays103 : Go.Proofs.Lays.n103 Tryz.prog Tryz.lays103_ren := {
  mixed := by kernel_rfl
  f103 := Tryz.func92.trans (congrArg some (by kernel_rfl))
  f206 := Tryz.func112.trans (congrArg some (by kernel_rfl))
  f210 := Tryz.func101.trans (congrArg some (by kernel_rfl))
  t3 := Tryz.underlying3
  a3 := Tryz.isAgg3
  z3 := Tryz.sizeOf3
  v3 := Tryz.zeroValue3
  t4 := Tryz.underlying4
  a4 := Tryz.isAgg4
  z4 := Tryz.sizeOf4
  v4 := Tryz.zeroValue4
  t9 := Tryz.underlying9
  a9 := Tryz.isAgg9
  z9 := Tryz.sizeOf9
  v9 := Tryz.zeroValue9
  t24 := Tryz.underlying157
  a24 := Tryz.isAgg157
  z24 := Tryz.sizeOf157
  v24 := Tryz.zeroValue157 }
open Go.RowKit in
/-- strings.CutPrefix: "CutPrefix returns s without the provided leading prefix string and reports whether it found the prefix. If s doesn't start with prefix, CutPrefix returns s, false. If prefix is the empty string, CutPrefix returns s, true.": IT RETURNS '(Lib.trimPrefix s p, Lib.hasPrefix s p)'; the world is as it was. (LAID: no walk: one application.) -/
theorem Tryz.strings_CutPrefix (s p : ByteArray) (w : World) :
    Calls Tryz.prog 92 #[.string s, .string p] w fun e w' => e = .returned (.tuple #[.string ⟨(Lib.trimPrefix s.data.toList p.data.toList).toArray⟩, .bool (Lib.hasPrefix s.data.toList p.data.toList)]) ∧ w' = w := Any.strings_CutPrefix Tryz.lays103 s p w
open Go.RowKit in
/-- (*strings.Builder).String: "String returns the accumulated string.": WHATEVER THE BUILDER HOLDS; THE FORM '_k': OVER 'Lib.IsBuilderF' (a builder that 'String()' may have read), AND WITH THE FRAME THAT REACHES ABOVE THE BUILDER: 'Lib.OthersKept': every block that is not b and is no row of uint8's stands as it stood: the iterator of a range among them. (LAID: no walk: one application.) -/
theorem Tryz.Builder_String_any_k (B b : Nat) (l : List UInt8) (w : World) (h : Lib.IsBuilderF 98 5 B b (Lib.byteCells l) w) (hBw : B ≤ w.heap.size) :
    Calls Tryz.prog 70 #[.pointer (some ⟨b, 0, none⟩)] w fun e w' => e = .returned (.string ⟨l.toArray⟩) ∧ (Lib.IsBuilderF 98 5 B b (Lib.byteCells l) w' ∧ Below B w w' ∧ Lib.OthersKept 5 (some b) w w') := Any.Builder_String_any_k Tryz.lays169 Tryz.Builder_Extra_169 B b l w h hBw
def Tryz.laysM171_ren : Go.Shelf.Ren := ⟨fun | 171 => 71 | 243 => 88 | 246 => 98 | 283 => 106 | 284 => 107 | 285 => 108 | 286 => 109 | 129 => 120 | 317 => 119 | 318 => 121 | 319 => 122 | 320 => 123 | 337 => 131 | 338 => 132 | n => n, fun | 3 => 3 | 9 => 9 | 2 => 2 | 4 => 4 | 171 => 167 | 0 => 0 | 53 => 168 | 37 => 22 | 5 => 5 | 173 => 171 | 212 => 181 | 51 => 51 | 20 => 20 | 213 => 182 | 46 => 184 | 232 => 208 | 233 => 209 | n => n, fun | 17 => 0 | 18 => 3 | 19 => 4 | n => n⟩
theorem Tryz.laysM171 : Go.Proofs.LaysM.n171 Tryz.prog Tryz.laysM171_ren := {
  mixed := by kernel_rfl
  f129 := Tryz.func120.trans (congrArg some (by kernel_rfl))
  f171 := Tryz.func71.trans (congrArg some (by kernel_rfl))
  f243 := Tryz.func88.trans (congrArg some (by kernel_rfl))
  f246 := Tryz.func98.trans (congrArg some (by kernel_rfl))
  f283 := Tryz.func106.trans (congrArg some (by kernel_rfl))
  f284 := Tryz.func107.trans (congrArg some (by kernel_rfl))
  f285 := Tryz.func108.trans (congrArg some (by kernel_rfl))
  f286 := Tryz.func109.trans (congrArg some (by kernel_rfl))
  f317 := Tryz.func119.trans (congrArg some (by kernel_rfl))
  f318 := Tryz.func121.trans (congrArg some (by kernel_rfl))
  f319 := Tryz.func122.trans (congrArg some (by kernel_rfl))
  f320 := Tryz.func123.trans (congrArg some (by kernel_rfl))
  f337 := Tryz.func131.trans (congrArg some (by kernel_rfl))
  f338 := Tryz.func132.trans (congrArg some (by kernel_rfl))
  t0 := Tryz.underlying0
  a0 := Tryz.isAgg0
  z0 := Tryz.sizeOf0
  v0 := Tryz.zeroValue0
  t2 := Tryz.underlying2
  a2 := Tryz.isAgg2
  z2 := Tryz.sizeOf2
  v2 := Tryz.zeroValue2
  t3 := Tryz.underlying3
  a3 := Tryz.isAgg3
  z3 := Tryz.sizeOf3
  v3 := Tryz.zeroValue3
  t4 := Tryz.underlying4
  a4 := Tryz.isAgg4
  z4 := Tryz.sizeOf4
  v4 := Tryz.zeroValue4
  t5 := Tryz.underlying5
  a5 := Tryz.isAgg5
  z5 := Tryz.sizeOf5
  v5 := Tryz.zeroValue5
  t9 := Tryz.underlying9
  a9 := Tryz.isAgg9
  z9 := Tryz.sizeOf9
  v9 := Tryz.zeroValue9
  t20 := Tryz.underlying20
  a20 := Tryz.isAgg20
  z20 := Tryz.sizeOf20
  v20 := Tryz.zeroValue20
  t37 := Tryz.underlying22
  a37 := Tryz.isAgg22
  z37 := Tryz.sizeOf22
  v37 := Tryz.zeroValue22
  t46 := Tryz.underlying184
  a46 := Tryz.isAgg184
  z46 := Tryz.sizeOf184
  v46 := Tryz.zeroValue184
  t51 := Tryz.underlying51
  a51 := Tryz.isAgg51
  z51 := Tryz.sizeOf51
  v51 := Tryz.zeroValue51
  t53 := Tryz.underlying168
  a53 := Tryz.isAgg168
  z53 := Tryz.sizeOf168
  v53 := Tryz.zeroValue168
  t171 := Tryz.underlying167
  a171 := Tryz.isAgg167
  z171 := Tryz.sizeOf167
  v171 := Tryz.zeroValue167
  t173 := Tryz.underlying171
  a173 := Tryz.isAgg171
  z173 := Tryz.sizeOf171
  v173 := Tryz.zeroValue171
  t212 := Tryz.underlying181
  a212 := Tryz.isAgg181
  z212 := Tryz.sizeOf181
  v212 := Tryz.zeroValue181
  t213 := Tryz.underlying182
  a213 := Tryz.isAgg182
  z213 := Tryz.sizeOf182
  t232 := Tryz.underlying208
  a232 := Tryz.isAgg208
  z232 := Tryz.sizeOf208
  v232 := Tryz.zeroValue208
  t233 := Tryz.underlying209
  a233 := Tryz.isAgg209
  z233 := Tryz.sizeOf209
  v233 := Tryz.zeroValue209
  g17 := by kernel_rfl
  g18 := by kernel_rfl
  g19 := by kernel_rfl
  i0 := by kernel_rfl
  i2 := by kernel_rfl
  i3 := by kernel_rfl
  i4 := by kernel_rfl
  i5 := by kernel_rfl
  i9 := by kernel_rfl
  i20 := by kernel_rfl
  i37 := by kernel_rfl
  i46 := by kernel_rfl
  i51 := by kernel_rfl
  i53 := by kernel_rfl
  i171 := by kernel_rfl
  i173 := by kernel_rfl
  i212 := by kernel_rfl
  i232 := by kernel_rfl
  i233 := by kernel_rfl
  m17 := by kernel_rfl
  m18 := by kernel_rfl
  m19 := by kernel_rfl }
open Go.RowKit Go.Sort Go.Lib in
/-- strconv.Itoa: "Itoa is equivalent to FormatInt(int64(i), 10).": i's DECIMAL NUMERAL ('Lib.itoa': a '-' where i is negative, then the digits), FOR EVERY int. The world behind the call: the world before it, new blocks behind the heap (the library's 'var a [24]byte'), draws. (LAID: no walk: one application.) -/
theorem Tryz.strconv_Itoa (n : Int) (h0 : -9223372036854775808 ≤ n) (h1 : n ≤ 9223372036854775807) (w : World) (htab : Lib.TabIs Tryz.prog w "internal/strconv.uint64pow10" .u64 Lib.pow10Tab) :
    Calls Tryz.prog 71 #[.int .i64 n] w fun e w' => e = .returned (.string ⟨(Lib.itoa n).toArray⟩) ∧ ∃ k os, w' = grow (w.drewN k) os := Any.strconv_Itoa Tryz.laysM171 n h0 h1 w htab
def Tryz.laysC172_ren : Go.Shelf.Ren := ⟨fun | 172 => 125 | 244 => 133 | 245 => 134 | 247 => 142 | 279 => 143 | 280 => 144 | 281 => 145 | 282 => 146 | 287 => 156 | 316 => 157 | 171 => 71 | 205 => 51 | 321 => 163 | 322 => 164 | 243 => 88 | 246 => 98 | 283 => 106 | 284 => 107 | 285 => 108 | 286 => 109 | 129 => 120 | 317 => 119 | 318 => 121 | 319 => 122 | 320 => 123 | 337 => 131 | 338 => 132 | n => n, fun | 9 => 9 | 3 => 3 | 75 => 59 | 76 => 128 | 4 => 4 | 5 => 5 | 167 => 210 | 37 => 22 | 0 => 0 | 85 => 211 | 2 => 2 | 168 => 213 | 53 => 168 | 175 => 227 | 46 => 184 | 210 => 230 | 127 => 132 | 145 => 118 | 143 => 116 | 21 => 21 | 171 => 167 | 173 => 171 | 212 => 181 | 51 => 51 | 20 => 20 | 213 => 182 | 232 => 208 | 233 => 209 | 80 => 73 | n => n, fun | 15 => 6 | 16 => 7 | 17 => 0 | 18 => 3 | 19 => 4 | n => n⟩
theorem Tryz.laysC172 : Go.Proofs.LaysC.n172 Tryz.prog Tryz.laysC172_ren := {
  mixed := by kernel_rfl
  f129 := Tryz.func120.trans (congrArg some (by kernel_rfl))
  f171 := Tryz.func71.trans (congrArg some (by kernel_rfl))
  f172 := Tryz.func125.trans (congrArg some (by kernel_rfl))
  f205 := Tryz.func51.trans (congrArg some (by kernel_rfl))
  f243 := Tryz.func88.trans (congrArg some (by kernel_rfl))
  f244 := Tryz.func133.trans (congrArg some (by kernel_rfl))
  f245 := Tryz.func134.trans (congrArg some (by kernel_rfl))
  f246 := Tryz.func98.trans (congrArg some (by kernel_rfl))
  f247 := Tryz.func142.trans (congrArg some (by kernel_rfl))
  f279 := Tryz.func143.trans (congrArg some (by kernel_rfl))
  f280 := Tryz.func144.trans (congrArg some (by kernel_rfl))
  f281 := Tryz.func145.trans (congrArg some (by kernel_rfl))
  f282 := Tryz.func146.trans (congrArg some (by kernel_rfl))
  f283 := Tryz.func106.trans (congrArg some (by kernel_rfl))
  f284 := Tryz.func107.trans (congrArg some (by kernel_rfl))
  f285 := Tryz.func108.trans (congrArg some (by kernel_rfl))
  f286 := Tryz.func109.trans (congrArg some (by kernel_rfl))
  f287 := Tryz.func156.trans (congrArg some (by kernel_rfl))
  f316 := Tryz.func157.trans (congrArg some (by kernel_rfl))
  f317 := Tryz.func119.trans (congrArg some (by kernel_rfl))
  f318 := Tryz.func121.trans (congrArg some (by kernel_rfl))
  f319 := Tryz.func122.trans (congrArg some (by kernel_rfl))
  f320 := Tryz.func123.trans (congrArg some (by kernel_rfl))
  f321 := Tryz.func163.trans (congrArg some (by kernel_rfl))
  f322 := Tryz.func164.trans (congrArg some (by kernel_rfl))
  f337 := Tryz.func131.trans (congrArg some (by kernel_rfl))
  f338 := Tryz.func132.trans (congrArg some (by kernel_rfl))
  t0 := Tryz.underlying0
  a0 := Tryz.isAgg0
  z0 := Tryz.sizeOf0
  v0 := Tryz.zeroValue0
  t2 := Tryz.underlying2
  a2 := Tryz.isAgg2
  z2 := Tryz.sizeOf2
  v2 := Tryz.zeroValue2
  t3 := Tryz.underlying3
  a3 := Tryz.isAgg3
  z3 := Tryz.sizeOf3
  v3 := Tryz.zeroValue3
  t4 := Tryz.underlying4
  a4 := Tryz.isAgg4
  z4 := Tryz.sizeOf4
  v4 := Tryz.zeroValue4
  t5 := Tryz.underlying5
  a5 := Tryz.isAgg5
  z5 := Tryz.sizeOf5
  v5 := Tryz.zeroValue5
  t9 := Tryz.underlying9
  a9 := Tryz.isAgg9
  z9 := Tryz.sizeOf9
  v9 := Tryz.zeroValue9
  t20 := Tryz.underlying20
  a20 := Tryz.isAgg20
  z20 := Tryz.sizeOf20
  v20 := Tryz.zeroValue20
  t21 := Tryz.underlying21
  a21 := Tryz.isAgg21
  z21 := Tryz.sizeOf21
  v21 := Tryz.zeroValue21
  t37 := Tryz.underlying22
  a37 := Tryz.isAgg22
  z37 := Tryz.sizeOf22
  v37 := Tryz.zeroValue22
  t46 := Tryz.underlying184
  a46 := Tryz.isAgg184
  z46 := Tryz.sizeOf184
  v46 := Tryz.zeroValue184
  t51 := Tryz.underlying51
  a51 := Tryz.isAgg51
  z51 := Tryz.sizeOf51
  v51 := Tryz.zeroValue51
  t53 := Tryz.underlying168
  a53 := Tryz.isAgg168
  z53 := Tryz.sizeOf168
  v53 := Tryz.zeroValue168
  t75 := Tryz.underlying59
  a75 := Tryz.isAgg59
  z75 := Tryz.sizeOf59
  v75 := Tryz.zeroValue59
  t76 := Tryz.underlying128
  a76 := Tryz.isAgg128
  z76 := Tryz.sizeOf128
  v76 := Tryz.zeroValue128
  t85 := Tryz.underlying211
  a85 := Tryz.isAgg211
  z85 := Tryz.sizeOf211
  v85 := Tryz.zeroValue211
  t127 := Tryz.underlying132
  a127 := Tryz.isAgg132
  z127 := Tryz.sizeOf132
  v127 := Tryz.zeroValue132
  t143 := Tryz.underlying116
  a143 := Tryz.isAgg116
  z143 := Tryz.sizeOf116
  v143 := Tryz.zeroValue116
  t145 := Tryz.underlying118
  a145 := Tryz.isAgg118
  z145 := Tryz.sizeOf118
  v145 := Tryz.zeroValue118
  t167 := Tryz.underlying210
  a167 := Tryz.isAgg210
  z167 := Tryz.sizeOf210
  v167 := Tryz.zeroValue210
  t168 := Tryz.underlying213
  a168 := Tryz.isAgg213
  z168 := Tryz.sizeOf213
  v168 := Tryz.zeroValue213
  t171 := Tryz.underlying167
  a171 := Tryz.isAgg167
  z171 := Tryz.sizeOf167
  v171 := Tryz.zeroValue167
  t173 := Tryz.underlying171
  a173 := Tryz.isAgg171
  z173 := Tryz.sizeOf171
  v173 := Tryz.zeroValue171
  t175 := Tryz.underlying227
  a175 := Tryz.isAgg227
  z175 := Tryz.sizeOf227
  v175 := Tryz.zeroValue227
  t210 := Tryz.underlying230
  a210 := Tryz.isAgg230
  z210 := Tryz.sizeOf230
  v210 := Tryz.zeroValue230
  t212 := Tryz.underlying181
  a212 := Tryz.isAgg181
  z212 := Tryz.sizeOf181
  v212 := Tryz.zeroValue181
  t213 := Tryz.underlying182
  a213 := Tryz.isAgg182
  z213 := Tryz.sizeOf182
  t232 := Tryz.underlying208
  a232 := Tryz.isAgg208
  z232 := Tryz.sizeOf208
  v232 := Tryz.zeroValue208
  t233 := Tryz.underlying209
  a233 := Tryz.isAgg209
  z233 := Tryz.sizeOf209
  v233 := Tryz.zeroValue209
  g15 := by kernel_rfl
  g16 := by kernel_rfl
  g17 := by kernel_rfl
  g18 := by kernel_rfl
  g19 := by kernel_rfl
  t80 := Tryz.underlying73
  a80 := Tryz.isAgg73
  z80 := Tryz.sizeOf73
  v80 := Tryz.zeroValue73
  i0 := by kernel_rfl
  i2 := by kernel_rfl
  i3 := by kernel_rfl
  i4 := by kernel_rfl
  i5 := by kernel_rfl
  i9 := by kernel_rfl
  i20 := by kernel_rfl
  i21 := by kernel_rfl
  i37 := by kernel_rfl
  i46 := by kernel_rfl
  i51 := by kernel_rfl
  i53 := by kernel_rfl
  i75 := by kernel_rfl
  i76 := by kernel_rfl
  i80 := by kernel_rfl
  i85 := by kernel_rfl
  i127 := by kernel_rfl
  i143 := by kernel_rfl
  i145 := by kernel_rfl
  i167 := by kernel_rfl
  i168 := by kernel_rfl
  i171 := by kernel_rfl
  i173 := by kernel_rfl
  i175 := by kernel_rfl
  i210 := by kernel_rfl
  i212 := by kernel_rfl
  i232 := by kernel_rfl
  i233 := by kernel_rfl
  m15 := by kernel_rfl
  m16 := by kernel_rfl
  m17 := by kernel_rfl
  m18 := by kernel_rfl
  m19 := by kernel_rfl
  c0 := by kernel_rfl
  c2 := by kernel_rfl
  c3 := by kernel_rfl
  c4 := by kernel_rfl
  c5 := by kernel_rfl
  c9 := by kernel_rfl
  c20 := by kernel_rfl
  c21 := by kernel_rfl
  c37 := by kernel_rfl
  c46 := by kernel_rfl
  c51 := by kernel_rfl
  c53 := by kernel_rfl
  c75 := by kernel_rfl
  c76 := by kernel_rfl
  c80 := by kernel_rfl
  c85 := by kernel_rfl
  c127 := by kernel_rfl
  c143 := by kernel_rfl
  c145 := by kernel_rfl
  c167 := by kernel_rfl
  c168 := by kernel_rfl
  c171 := by kernel_rfl
  c173 := by kernel_rfl
  c175 := by kernel_rfl
  c210 := by kernel_rfl
  c212 := by kernel_rfl
  c213 := by kernel_rfl
  c232 := by kernel_rfl
  c233 := by kernel_rfl }
open Go.RowKit in
/-- strconv.Atoi, AT EVERY STRING THAT SPELLS AN int ('Lib.atoiAll .. = .ok v'; of whatever length: leading zeros count): v, AND NO ERROR. The world: as it was, or with the one new row that '[]byte(..)' lays. (LAID: no walk: one application.) -/
theorem Tryz.strconv_Atoi_ok (s : ByteArray) (hmax : s.size ≤ 9223372036854775806) (v : Int) (h : Lib.atoiAll s.data.toList = .ok v) (w : World) :
    Calls Tryz.prog 125 #[.string s] w fun e w' => e = .returned (.tuple #[.int .i64 v, .nilIface]) ∧ (w' = w ∨ ∃ t, w' = Lib.bytesWorld w 5 t) := Any.strconv_Atoi_ok Tryz.laysC172 s hmax v h w
open Go.RowKit in
theorem Tryz.strconv_Atoi_syntax_var (s : ByteArray) (hlim : s.size ≤ 281474976710656) (h : Lib.atoiAll s.data.toList = Lib.atoiAll []) (tp : TypeId) (p : Value) (w : World) (hvar : w.var? Tryz.prog "strconv.ErrSyntax" = some #[.iface tp p]) :
    Calls Tryz.prog 125 #[.string s] w fun e w' => ∃ N, e = .returned (.tuple #[.int .i64 0, .iface 213 (.pointer (some ⟨N, 0, none⟩))]) ∧ w.heap.size ≤ N ∧ w'.heap[N]? = some (.cells #[.string ⟨#[65, 116, 111, 105]⟩, .string s, .iface tp p] 230 (0, 0)) ∧ Below w.heap.size w w' := Any.strconv_Atoi_syntax_var Tryz.laysC172 s hlim h tp p w hvar
open Go.RowKit in
theorem Tryz.strconv_Atoi_range_var (s : ByteArray) (hlim : s.size ≤ 281474976710656) (h : Lib.atoiAll s.data.toList = .range) (tp : TypeId) (p : Value) (w : World) (hvar : w.var? Tryz.prog "strconv.ErrRange" = some #[.iface tp p]) :
    Calls Tryz.prog 125 #[.string s] w fun e w' => ∃ N, e = .returned (.tuple #[.int .i64 (Lib.atoiSat s.data.toList), .iface 213 (.pointer (some ⟨N, 0, none⟩))]) ∧ w.heap.size ≤ N ∧ w'.heap[N]? = some (.cells #[.string ⟨#[65, 116, 111, 105]⟩, .string s, .iface tp p] 230 (0, 0)) ∧ Below w.heap.size w w' := Any.strconv_Atoi_range_var Tryz.laysC172 s hlim h tp p w hvar
def Tryz.lays272_ren : Go.Shelf.Ren := ⟨fun | 272 => 135 | 315 => 147 | n => n, fun | 9 => 9 | 40 => 120 | 4 => 4 | 3 => 3 | 0 => 0 | 21 => 21 | n => n, fun | n => n⟩
theorem Tryz.lays272 : Go.Proofs.Lays.n272 Tryz.prog Tryz.lays272_ren := {
  mixed := by kernel_rfl
  f272 := Tryz.func135.trans (congrArg some (by kernel_rfl))
  f315 := Tryz.func147.trans (congrArg some (by kernel_rfl))
  t0 := Tryz.underlying0
  a0 := Tryz.isAgg0
  z0 := Tryz.sizeOf0
  v0 := Tryz.zeroValue0
  t3 := Tryz.underlying3
  a3 := Tryz.isAgg3
  z3 := Tryz.sizeOf3
  v3 := Tryz.zeroValue3
  t4 := Tryz.underlying4
  a4 := Tryz.isAgg4
  z4 := Tryz.sizeOf4
  v4 := Tryz.zeroValue4
  t9 := Tryz.underlying9
  a9 := Tryz.isAgg9
  z9 := Tryz.sizeOf9
  v9 := Tryz.zeroValue9
  t21 := Tryz.underlying21
  a21 := Tryz.isAgg21
  z21 := Tryz.sizeOf21
  v21 := Tryz.zeroValue21
  t40 := Tryz.underlying120
  a40 := Tryz.isAgg120
  z40 := Tryz.sizeOf120
  v40 := Tryz.zeroValue120 }
def Tryz.lays199_ren : Go.Shelf.Ren := ⟨fun | 199 => 136 | 261 => 148 | 311 => 158 | 312 => 159 | n => n, fun | 21 => 21 | 4 => 4 | 51 => 51 | 141 => 218 | 0 => 0 | 196 => 234 | 193 => 231 | 3 => 3 | 198 => 237 | 49 => 235 | 194 => 232 | 201 => 240 | 226 => 244 | 46 => 184 | 227 => 245 | n => n, fun | 6 => 5 | n => n⟩
theorem Tryz.lays199 : Go.Proofs.Lays.n199 Tryz.prog Tryz.lays199_ren := {
  mixed := by kernel_rfl
  f199 := Tryz.func136.trans (congrArg some (by kernel_rfl))
  f261 := Tryz.func148.trans (congrArg some (by kernel_rfl))
  f311 := Tryz.func158.trans (congrArg some (by kernel_rfl))
  f312 := Tryz.func159.trans (congrArg some (by kernel_rfl))
  t0 := Tryz.underlying0
  a0 := Tryz.isAgg0
  z0 := Tryz.sizeOf0
  v0 := Tryz.zeroValue0
  t3 := Tryz.underlying3
  a3 := Tryz.isAgg3
  z3 := Tryz.sizeOf3
  v3 := Tryz.zeroValue3
  t4 := Tryz.underlying4
  a4 := Tryz.isAgg4
  z4 := Tryz.sizeOf4
  v4 := Tryz.zeroValue4
  t21 := Tryz.underlying21
  a21 := Tryz.isAgg21
  z21 := Tryz.sizeOf21
  v21 := Tryz.zeroValue21
  t46 := Tryz.underlying184
  a46 := Tryz.isAgg184
  z46 := Tryz.sizeOf184
  v46 := Tryz.zeroValue184
  t49 := Tryz.underlying235
  a49 := Tryz.isAgg235
  z49 := Tryz.sizeOf235
  v49 := Tryz.zeroValue235
  t51 := Tryz.underlying51
  a51 := Tryz.isAgg51
  z51 := Tryz.sizeOf51
  v51 := Tryz.zeroValue51
  t141 := Tryz.underlying218
  a141 := Tryz.isAgg218
  z141 := Tryz.sizeOf218
  v141 := Tryz.zeroValue218
  t193 := Tryz.underlying231
  a193 := Tryz.isAgg231
  z193 := Tryz.sizeOf231
  v193 := Tryz.zeroValue231
  t194 := Tryz.underlying232
  a194 := Tryz.isAgg232
  z194 := Tryz.sizeOf232
  v194 := Tryz.zeroValue232
  t196 := Tryz.underlying234
  a196 := Tryz.isAgg234
  z196 := Tryz.sizeOf234
  v196 := Tryz.zeroValue234
  t198 := Tryz.underlying237
  a198 := Tryz.isAgg237
  z198 := Tryz.sizeOf237
  v198 := Tryz.zeroValue237
  t201 := Tryz.underlying240
  a201 := Tryz.isAgg240
  z201 := Tryz.sizeOf240
  v201 := Tryz.zeroValue240
  t226 := Tryz.underlying244
  a226 := Tryz.isAgg244
  z226 := Tryz.sizeOf244
  v226 := Tryz.zeroValue244
  t227 := Tryz.underlying245
  a227 := Tryz.isAgg245
  z227 := Tryz.sizeOf245
  v227 := Tryz.zeroValue245
  g6 := by kernel_rfl }
open Go.RowKit Go.Lib in
/-- **unicode.IsSpace AT EVERY int32.** (LAID: no walk: one application.) -/
theorem Tryz.unicode_IsSpace_any (r : Int) (w : World) (hlo : -2147483648 ≤ r) (hhi : r ≤ 2147483647) (hW : Lib.WhiteTab 5 w) :
    Calls Tryz.prog 136 #[.int .i32 r] w fun e w' => e = .returned (.bool (Lib.isSpaceZ r)) ∧ Below w.heap.size w w' := Any.unicode_IsSpace_any Tryz.lays199 r w hlo hhi hW
open Go.RowKit Go.Lib in
theorem Tryz.strings_TrimLeftFunc_grows (g : Nat) (lb : Array Value) (eg : ∀ args w, (callFunc g args).run Tryz.prog w = .ok (.enter g args) w) (p : Nat → Bool) (s : ByteArray) (w : World) (hp : PredGrows Tryz.prog g lb p w) :
    Calls Tryz.prog 135 #[.string s, .func (.func g) #[] lb] w fun e w' => e = .returned (.string (Lib.trimLeftF p s)) ∧ Below w.heap.size w w' := Any.strings_TrimLeftFunc_grows Tryz.lays272 g lb eg p s w hp
def Tryz.lays167_ren : Go.Shelf.Ren := ⟨fun | 167 => 91 | 240 => 99 | 276 => 110 | n => n, fun | 0 => 0 | 4 => 4 | 5 => 5 | 9 => 9 | 20 => 20 | 37 => 22 | 70 => 96 | 72 => 98 | 75 => 59 | 80 => 73 | 164 => 173 | n => n, fun | n => n⟩
theorem Tryz.lays167 : Go.Proofs.Lays.n167 Tryz.prog Tryz.lays167_ren := {
  mixed := by kernel_rfl
  f167 := Tryz.func91.trans (congrArg some (by kernel_rfl))
  f240 := Tryz.func99.trans (congrArg some (by kernel_rfl))
  f276 := Tryz.func110.trans (congrArg some (by kernel_rfl))
  t0 := Tryz.underlying0
  a0 := Tryz.isAgg0
  z0 := Tryz.sizeOf0
  v0 := Tryz.zeroValue0
  t4 := Tryz.underlying4
  a4 := Tryz.isAgg4
  z4 := Tryz.sizeOf4
  v4 := Tryz.zeroValue4
  t5 := Tryz.underlying5
  a5 := Tryz.isAgg5
  z5 := Tryz.sizeOf5
  v5 := Tryz.zeroValue5
  t9 := Tryz.underlying9
  a9 := Tryz.isAgg9
  z9 := Tryz.sizeOf9
  v9 := Tryz.zeroValue9
  t20 := Tryz.underlying20
  a20 := Tryz.isAgg20
  z20 := Tryz.sizeOf20
  v20 := Tryz.zeroValue20
  t37 := Tryz.underlying22
  a37 := Tryz.isAgg22
  z37 := Tryz.sizeOf22
  v37 := Tryz.zeroValue22
  t70 := Tryz.underlying96
  a70 := Tryz.isAgg96
  z70 := Tryz.sizeOf96
  v70 := Tryz.zeroValue96
  t72 := Tryz.underlying98
  a72 := Tryz.isAgg98
  z72 := Tryz.sizeOf98
  v72 := Tryz.zeroValue98
  t75 := Tryz.underlying59
  a75 := Tryz.isAgg59
  z75 := Tryz.sizeOf59
  v75 := Tryz.zeroValue59
  t164 := Tryz.underlying173
  a164 := Tryz.isAgg173
  z164 := Tryz.sizeOf173
  v164 := Tryz.zeroValue173 }
theorem Tryz.Builder_Extra_167 : Builder.Extra Tryz.prog Tryz.lays167_ren := {
  sizeBuilder := by kernel_rfl
  liesBuilder := by kernel_rfl
  t5 := Tryz.underlying5
  a5 := Tryz.isAgg5
  z5 := Tryz.sizeOf5
  v5 := Tryz.zeroValue5
  infoByte := by kernel_rfl
  cellsByte := by kernel_rfl
  sizeByte := by kernel_rfl
  neB5 := by decide }
def Tryz.lays166_ren : Go.Shelf.Ren := ⟨fun | 166 => 90 | 240 => 99 | 276 => 110 | n => n, fun | 0 => 0 | 3 => 3 | 4 => 4 | 5 => 5 | 9 => 9 | 20 => 20 | 37 => 22 | 70 => 96 | 72 => 98 | 75 => 59 | 80 => 73 | 164 => 173 | n => n, fun | n => n⟩
theorem Tryz.lays166 : Go.Proofs.Lays.n166 Tryz.prog Tryz.lays166_ren := {
  mixed := by kernel_rfl
  f166 := Tryz.func90.trans (congrArg some (by kernel_rfl))
  f240 := Tryz.func99.trans (congrArg some (by kernel_rfl))
  f276 := Tryz.func110.trans (congrArg some (by kernel_rfl))
  t0 := Tryz.underlying0
  a0 := Tryz.isAgg0
  z0 := Tryz.sizeOf0
  v0 := Tryz.zeroValue0
  t3 := Tryz.underlying3
  a3 := Tryz.isAgg3
  z3 := Tryz.sizeOf3
  v3 := Tryz.zeroValue3
  t4 := Tryz.underlying4
  a4 := Tryz.isAgg4
  z4 := Tryz.sizeOf4
  v4 := Tryz.zeroValue4
  t9 := Tryz.underlying9
  a9 := Tryz.isAgg9
  z9 := Tryz.sizeOf9
  v9 := Tryz.zeroValue9
  t20 := Tryz.underlying20
  a20 := Tryz.isAgg20
  z20 := Tryz.sizeOf20
  v20 := Tryz.zeroValue20
  t37 := Tryz.underlying22
  a37 := Tryz.isAgg22
  z37 := Tryz.sizeOf22
  v37 := Tryz.zeroValue22
  t70 := Tryz.underlying96
  a70 := Tryz.isAgg96
  z70 := Tryz.sizeOf96
  v70 := Tryz.zeroValue96
  t72 := Tryz.underlying98
  a72 := Tryz.isAgg98
  z72 := Tryz.sizeOf98
  v72 := Tryz.zeroValue98
  t75 := Tryz.underlying59
  a75 := Tryz.isAgg59
  z75 := Tryz.sizeOf59
  v75 := Tryz.zeroValue59
  t164 := Tryz.underlying173
  a164 := Tryz.isAgg173
  z164 := Tryz.sizeOf173
  v164 := Tryz.zeroValue173 }
theorem Tryz.Builder_Extra_166 : Builder.Extra Tryz.prog Tryz.lays166_ren := {
  sizeBuilder := by kernel_rfl
  liesBuilder := by kernel_rfl
  t5 := Tryz.underlying5
  a5 := Tryz.isAgg5
  z5 := Tryz.sizeOf5
  v5 := Tryz.zeroValue5
  infoByte := by kernel_rfl
  cellsByte := by kernel_rfl
  sizeByte := by kernel_rfl
  neB5 := by decide }
open Go.RowKit in
/-- (*strings.Builder).WriteByte: "WriteByte appends the byte c to b's buffer. The returned error is always nil.": UNDER Go's OWN LIMIT: the new length takes at most 2^47 bytes. (LAID: no walk: one application.) -/
theorem Tryz.Builder_WriteByte_k (B b : Nat) (bs : List Value) (c : Int) (w : World) (h : Lib.IsBuilderF 98 5 B b bs w) (hlen : bs.length + 1 ≤ 140737488355328) (hBw : B ≤ w.heap.size) :
    Calls Tryz.prog 91 #[.pointer (some ⟨b, 0, none⟩), .int .u8 c] w fun e w' => e = .returned .nilIface ∧ (Lib.BuilderAtF 98 5 B b (.pointer (some ⟨b, 0, none⟩)) (bs ++ [.int .u8 c]) w' ∧ Below B w w' ∧ Lib.OthersKept 5 (some b) w w') := Any.Builder_WriteByte_k Tryz.lays167 Tryz.Builder_Extra_167 B b bs c w h hlen hBw
open Go.RowKit in
/-- (*strings.Builder).WriteString: "WriteString appends the contents of s to b's buffer. It returns the length of s and a nil error.": UNDER Go's OWN LIMIT: the new length takes at most 2^47 bytes. THE FORM '_k': OVER 'Lib.IsBuilderF' (a builder that 'String()' may have read), AND WITH THE FRAME THAT REACHES ABOVE THE BUILDER: 'Lib.OthersKept': every block that is not b and is no row of uint8's stands as it stood: the iterator of a range among them.' HAS READ, TOO: the bytes go in BEHIND what is frozen, or, where there is no room, all goes over into a new row.) (LAID: no walk: one application.) -/
theorem Tryz.Builder_WriteString_k (B b : Nat) (bs : List Value) (s : ByteArray) (w : World) (h : Lib.IsBuilderF 98 5 B b bs w) (hlen : bs.length + s.size ≤ 140737488355328) (hBw : B ≤ w.heap.size) :
    Calls Tryz.prog 90 #[.pointer (some ⟨b, 0, none⟩), .string s] w fun e w' => e = .returned (.tuple #[.int .i64 s.size, .nilIface]) ∧ (Lib.BuilderAtF 98 5 B b (.pointer (some ⟨b, 0, none⟩)) (bs ++ Lib.strCells s) w' ∧ Below B w w' ∧ Lib.OthersKept 5 (some b) w w') := Any.Builder_WriteString_k Tryz.lays166 Tryz.Builder_Extra_166 B b bs s w h hlen hBw
end Go.Proofs
