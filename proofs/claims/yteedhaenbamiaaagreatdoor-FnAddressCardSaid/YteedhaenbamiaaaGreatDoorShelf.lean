/-
  DERIVED: THE SHELF's CONTRACTS AT THIS DUMP, IN PLAIN WORDS (tools/lay-plain.mjs out of 'TryzShelf.lean', which tools/lay-shelf.mjs wrote): THE SAME DECLARATIONS UNDER THE SAME NAMES: 'import', 'namespace', 'open', 'def', 'theorem' AND NOTHING ELSE: no command of the shelf's: FOR A HAND-IN. Each laying: the table of numbers ('.._ren') and one theorem, a field a fact of the dump's own or the kernel's comparison; each contract: ONE APPLICATION.
-/
import Derived.Shelf.Strings.Builder1
import Derived.Shelf.Strings.Builder2
import Derived.Shelf.Strings.TrimSpace
import Derived.Shelf.Small.Utf8
import Derived.Shelf.Small.Wraps
import Derived.Shelf.Strings.BuilderF
import Derived.Shelf.Strings.BuilderK
import Derived.Shelf.Strings.Builder2Cap
import Derived.Shelf.Strconv.Atoi
import Derived.Shelf.Strconv.Itoa0
import Derived.Shelf.Strconv.Itoa1
import Derived.Shelf.LaysM
import Derived.Shelf.Strconv.Itoa2
import Derived.Shelf.Strconv.Itoa3
import Derived.Shelf.Strconv.AtoiErrFast
import Derived.Shelf.Strconv.ParseIntEmpty
import Derived.Shelf.Strconv.AtoiFail
import Derived.Shelf.Strconv.Clone
import Derived.Shelf.Strconv.SyntaxError
import Derived.Shelf.LaysC
import Derived.Shelf.Strconv.ToError
import Derived.Shelf.Strconv.AtoiErr
import Derived.Shelf.Strconv.Lower
import Derived.Shelf.Strconv.ParseUint10
import Derived.Shelf.Strconv.ParseUint10Empty
import Derived.Shelf.Strconv.ParseUint10Any
import Derived.Shelf.Strconv.ParseInt10
import Derived.Shelf.Strconv.AtoiLong
import Derived.Shelf.Strconv.AtoiInnerAll
import Derived.Shelf.Strconv.RangeError
import Derived.Shelf.Strconv.ToErrorRange
import Derived.Shelf.Strconv.AtoiAll
import Derived.Shelf.Strconv.ErrVarAll
import Derived.Shelf.GgClosure.StringsIndexFunc
import Derived.Shelf.GgClosure.StringsTrimFunc
import Derived.Shelf.GgClosure.StringsRunes
import Derived.Shelf.Strings.Prefix
import Derived.Shelf.Unicode.Latin
import Derived.Shelf.Unicode.DecodeSlow
import Derived.Shelf.Unicode.DecodeAny
import Derived.Shelf.Unicode.Is16White
import Derived.Shelf.Unicode.IsSpaceAny
import Derived.Shelf.Unicode.DecodeLast
import Derived.Shelf.Strings.TrimSpaceAny
import Derived.Shelf.Unicode.Is16WhiteD
import Derived.Shelf.Unicode.IsSpaceAnyD
import Derived.Shelf.Unicode.Is16Any
import Derived.Shelf.Unicode.Is32Any
import Derived.Shelf.Unicode.ExclAny
import Derived.Shelf.Strings.FuncGrows
import Derived.Shelf.Strings.BuilderCap
import Derived.Test.YteedhaenbamiaaaGreatDoorProg
namespace Go.Proofs
open Go.Shelf
def Tryz.lays169_ren : Go.Shelf.Ren := ⟨fun | 169 => 88 | n => n, fun | 70 => 116 | 9 => 9 | 0 => 0 | 72 => 118 | 37 => 22 | 127 => 160 | 3 => 3 | 5 => 5 | n => n, fun | n => n⟩
theorem Tryz.lays169 : Go.Proofs.Lays.n169 Tryz.prog Tryz.lays169_ren := {
  mixed := by kernel_rfl
  f169 := Tryz.func88.trans (congrArg some (by kernel_rfl))
  t0 := Tryz.underlying0
  a0 := Tryz.isAgg0
  z0 := Tryz.sizeOf0
  v0 := Tryz.zeroValue0
  t3 := Tryz.underlying3
  a3 := Tryz.isAgg3
  z3 := Tryz.sizeOf3
  v3 := Tryz.zeroValue3
  t9 := Tryz.underlying9
  a9 := Tryz.isAgg9
  z9 := Tryz.sizeOf9
  v9 := Tryz.zeroValue9
  t37 := Tryz.underlying22
  a37 := Tryz.isAgg22
  z37 := Tryz.sizeOf22
  v37 := Tryz.zeroValue22
  t70 := Tryz.underlying116
  a70 := Tryz.isAgg116
  z70 := Tryz.sizeOf116
  v70 := Tryz.zeroValue116
  t72 := Tryz.underlying118
  a72 := Tryz.isAgg118
  z72 := Tryz.sizeOf118
  v72 := Tryz.zeroValue118
  t127 := Tryz.underlying160
  a127 := Tryz.isAgg160
  z127 := Tryz.sizeOf160
  v127 := Tryz.zeroValue160 }
theorem Tryz.Builder_Extra_169 : Builder.Extra Tryz.prog Tryz.lays169_ren := {
  sizeBuilder := by kernel_rfl
  liesBuilder := by kernel_rfl
  t5 := Tryz.underlying5
  a5 := Tryz.isAgg5
  z5 := Tryz.sizeOf5
  v5 := Tryz.zeroValue5
  infoByte := by kernel_rfl
  cellsByte := by kernel_rfl
  sizeByte := by kernel_rfl
  neB5 := by decide }
def Tryz.lays165_ren : Go.Shelf.Ren := ⟨fun | 165 => 131 | 240 => 141 | 241 => 147 | 276 => 159 | 277 => 166 | n => n, fun | 70 => 116 | 3 => 3 | 0 => 0 | 4 => 4 | 9 => 9 | 20 => 20 | 72 => 118 | 37 => 22 | 164 => 233 | 5 => 5 | n => n, fun | n => n⟩
theorem Tryz.lays165 : Go.Proofs.Lays.n165 Tryz.prog Tryz.lays165_ren := {
  mixed := by kernel_rfl
  f165 := Tryz.func131.trans (congrArg some (by kernel_rfl))
  f240 := Tryz.func141.trans (congrArg some (by kernel_rfl))
  f241 := Tryz.func147.trans (congrArg some (by kernel_rfl))
  f276 := Tryz.func159.trans (congrArg some (by kernel_rfl))
  f277 := Tryz.func166.trans (congrArg some (by kernel_rfl))
  t0 := Tryz.underlying0
  a0 := Tryz.isAgg0
  z0 := Tryz.sizeOf0
  v0 := Tryz.zeroValue0
  t3 := Tryz.underlying3
  a3 := Tryz.isAgg3
  z3 := Tryz.sizeOf3
  v3 := Tryz.zeroValue3
  t4 := Tryz.underlying4
  a4 := Tryz.isAgg4
  z4 := Tryz.sizeOf4
  v4 := Tryz.zeroValue4
  t9 := Tryz.underlying9
  a9 := Tryz.isAgg9
  z9 := Tryz.sizeOf9
  v9 := Tryz.zeroValue9
  t20 := Tryz.underlying20
  a20 := Tryz.isAgg20
  z20 := Tryz.sizeOf20
  v20 := Tryz.zeroValue20
  t37 := Tryz.underlying22
  a37 := Tryz.isAgg22
  z37 := Tryz.sizeOf22
  v37 := Tryz.zeroValue22
  t70 := Tryz.underlying116
  a70 := Tryz.isAgg116
  z70 := Tryz.sizeOf116
  v70 := Tryz.zeroValue116
  t72 := Tryz.underlying118
  a72 := Tryz.isAgg118
  z72 := Tryz.sizeOf118
  v72 := Tryz.zeroValue118
  t164 := Tryz.underlying233
  a164 := Tryz.isAgg233
  z164 := Tryz.sizeOf233
  v164 := Tryz.zeroValue233 }
theorem Tryz.Builder_Extra_165 : Builder.Extra Tryz.prog Tryz.lays165_ren := {
  sizeBuilder := by kernel_rfl
  liesBuilder := by kernel_rfl
  t5 := Tryz.underlying5
  a5 := Tryz.isAgg5
  z5 := Tryz.sizeOf5
  v5 := Tryz.zeroValue5
  infoByte := by kernel_rfl
  cellsByte := by kernel_rfl
  sizeByte := by kernel_rfl
  neB5 := by decide }
open Go.RowKit in
/-- (*strings.Builder).Grow AT A BUILDER THAT HAS NOT BEEN WRITTEN ('var b strings.Builder; b.Grow(n)'): "Grow grows b's capacity, if necessary, to guarantee space for another n bytes.": it holds no byte behind it as before it. (LAID: no walk: one application.) -/
theorem Tryz.Builder_Grow_fresh (B b n : Nat) (w : World) (hB : B ≤ b) (hbk : w.heap[b]? = some (.cells #[.pointer none, .slice none 0 0] 118 (0, 0))) (hBw : B ≤ w.heap.size) (hn : n ≤ 281474976710656) :
    Calls Tryz.prog 131 #[.pointer (some ⟨b, 0, none⟩), .int .i64 n] w fun e w' => e = .returned (.tuple #[]) ∧ (Lib.BuilderAt 118 5 B b (.pointer (some ⟨b, 0, none⟩)) [] w' ∧ Below B w w') := Any.Builder_Grow_fresh Tryz.lays165 Tryz.Builder_Extra_165 B b n w hB hbk hBw hn
def Tryz.lays103_ren : Go.Shelf.Ren := ⟨fun | 103 => 132 | 210 => 148 | 206 => 167 | n => n, fun | 9 => 9 | 4 => 4 | 24 => 201 | 3 => 3 | n => n, fun | n => n⟩
theorem Tryz.lays103 : Go.Proofs.Lays.n103 Tryz.prog Tryz.lays103_ren := {
  mixed := by kernel_rfl
  f103 := Tryz.func132.trans (congrArg some (by kernel_rfl))
  f206 := Tryz.func167.trans (congrArg some (by kernel_rfl))
  f210 := Tryz.func148.trans (congrArg some (by kernel_rfl))
  t3 := Tryz.underlying3
  a3 := Tryz.isAgg3
  z3 := Tryz.sizeOf3
  v3 := Tryz.zeroValue3
  t4 := Tryz.underlying4
  a4 := Tryz.isAgg4
  z4 := Tryz.sizeOf4
  v4 := Tryz.zeroValue4
  t9 := Tryz.underlying9
  a9 := Tryz.isAgg9
  z9 := Tryz.sizeOf9
  v9 := Tryz.zeroValue9
  t24 := Tryz.underlying201
  a24 := Tryz.isAgg201
  z24 := Tryz.sizeOf201
  v24 := Tryz.zeroValue201 }
open Go.RowKit in
/-- strings.CutPrefix: "CutPrefix returns s without the provided leading prefix string and reports whether it found the prefix. If s doesn't start with prefix, CutPrefix returns s, false. If prefix is the empty string, CutPrefix returns s, true.": IT RETURNS '(Lib.trimPrefix s p, Lib.hasPrefix s p)'; the world is as it was. (LAID: no walk: one application.) -/
theorem Tryz.strings_CutPrefix (s p : ByteArray) (w : World) :
    Calls Tryz.prog 132 #[.string s, .string p] w fun e w' => e = .returned (.tuple #[.string ⟨(Lib.trimPrefix s.data.toList p.data.toList).toArray⟩, .bool (Lib.hasPrefix s.data.toList p.data.toList)]) ∧ w' = w := Any.strings_CutPrefix Tryz.lays103 s p w
open Go.RowKit in
/-- (*strings.Builder).String: "String returns the accumulated string.": WHATEVER THE BUILDER HOLDS; THE FORM '_k': OVER 'Lib.IsBuilderF' (a builder that 'String()' may have read), AND WITH THE FRAME THAT REACHES ABOVE THE BUILDER: 'Lib.OthersKept': every block that is not b and is no row of uint8's stands as it stood: the iterator of a range among them. (LAID: no walk: one application.) -/
theorem Tryz.Builder_String_any_k (B b : Nat) (l : List UInt8) (w : World) (h : Lib.IsBuilderF 118 5 B b (Lib.byteCells l) w) (hBw : B ≤ w.heap.size) :
    Calls Tryz.prog 88 #[.pointer (some ⟨b, 0, none⟩)] w fun e w' => e = .returned (.string ⟨l.toArray⟩) ∧ (Lib.IsBuilderF 118 5 B b (Lib.byteCells l) w' ∧ Below B w w' ∧ Lib.OthersKept 5 (some b) w w') := Any.Builder_String_any_k Tryz.lays169 Tryz.Builder_Extra_169 B b l w h hBw
def Tryz.laysM171_ren : Go.Shelf.Ren := ⟨fun | 171 => 86 | 243 => 109 | 246 => 123 | 283 => 137 | 284 => 138 | 285 => 139 | 286 => 140 | 129 => 155 | 317 => 154 | 318 => 156 | 319 => 157 | 320 => 158 | 337 => 178 | 338 => 179 | n => n, fun | 3 => 3 | 9 => 9 | 2 => 2 | 4 => 4 | 171 => 214 | 0 => 0 | 53 => 203 | 37 => 22 | 5 => 5 | 173 => 217 | 212 => 229 | 51 => 70 | 20 => 20 | 213 => 230 | 46 => 51 | 232 => 266 | 233 => 267 | n => n, fun | 17 => 2 | 18 => 7 | 19 => 8 | n => n⟩
theorem Tryz.laysM171 : Go.Proofs.LaysM.n171 Tryz.prog Tryz.laysM171_ren := {
  mixed := by kernel_rfl
  f129 := Tryz.func155.trans (congrArg some (by kernel_rfl))
  f171 := Tryz.func86.trans (congrArg some (by kernel_rfl))
  f243 := Tryz.func109.trans (congrArg some (by kernel_rfl))
  f246 := Tryz.func123.trans (congrArg some (by kernel_rfl))
  f283 := Tryz.func137.trans (congrArg some (by kernel_rfl))
  f284 := Tryz.func138.trans (congrArg some (by kernel_rfl))
  f285 := Tryz.func139.trans (congrArg some (by kernel_rfl))
  f286 := Tryz.func140.trans (congrArg some (by kernel_rfl))
  f317 := Tryz.func154.trans (congrArg some (by kernel_rfl))
  f318 := Tryz.func156.trans (congrArg some (by kernel_rfl))
  f319 := Tryz.func157.trans (congrArg some (by kernel_rfl))
  f320 := Tryz.func158.trans (congrArg some (by kernel_rfl))
  f337 := Tryz.func178.trans (congrArg some (by kernel_rfl))
  f338 := Tryz.func179.trans (congrArg some (by kernel_rfl))
  t0 := Tryz.underlying0
  a0 := Tryz.isAgg0
  z0 := Tryz.sizeOf0
  v0 := Tryz.zeroValue0
  t2 := Tryz.underlying2
  a2 := Tryz.isAgg2
  z2 := Tryz.sizeOf2
  v2 := Tryz.zeroValue2
  t3 := Tryz.underlying3
  a3 := Tryz.isAgg3
  z3 := Tryz.sizeOf3
  v3 := Tryz.zeroValue3
  t4 := Tryz.underlying4
  a4 := Tryz.isAgg4
  z4 := Tryz.sizeOf4
  v4 := Tryz.zeroValue4
  t5 := Tryz.underlying5
  a5 := Tryz.isAgg5
  z5 := Tryz.sizeOf5
  v5 := Tryz.zeroValue5
  t9 := Tryz.underlying9
  a9 := Tryz.isAgg9
  z9 := Tryz.sizeOf9
  v9 := Tryz.zeroValue9
  t20 := Tryz.underlying20
  a20 := Tryz.isAgg20
  z20 := Tryz.sizeOf20
  v20 := Tryz.zeroValue20
  t37 := Tryz.underlying22
  a37 := Tryz.isAgg22
  z37 := Tryz.sizeOf22
  v37 := Tryz.zeroValue22
  t46 := Tryz.underlying51
  a46 := Tryz.isAgg51
  z46 := Tryz.sizeOf51
  v46 := Tryz.zeroValue51
  t51 := Tryz.underlying70
  a51 := Tryz.isAgg70
  z51 := Tryz.sizeOf70
  v51 := Tryz.zeroValue70
  t53 := Tryz.underlying203
  a53 := Tryz.isAgg203
  z53 := Tryz.sizeOf203
  v53 := Tryz.zeroValue203
  t171 := Tryz.underlying214
  a171 := Tryz.isAgg214
  z171 := Tryz.sizeOf214
  v171 := Tryz.zeroValue214
  t173 := Tryz.underlying217
  a173 := Tryz.isAgg217
  z173 := Tryz.sizeOf217
  v173 := Tryz.zeroValue217
  t212 := Tryz.underlying229
  a212 := Tryz.isAgg229
  z212 := Tryz.sizeOf229
  v212 := Tryz.zeroValue229
  t213 := Tryz.underlying230
  a213 := Tryz.isAgg230
  z213 := Tryz.sizeOf230
  t232 := Tryz.underlying266
  a232 := Tryz.isAgg266
  z232 := Tryz.sizeOf266
  v232 := Tryz.zeroValue266
  t233 := Tryz.underlying267
  a233 := Tryz.isAgg267
  z233 := Tryz.sizeOf267
  v233 := Tryz.zeroValue267
  g17 := by kernel_rfl
  g18 := by kernel_rfl
  g19 := by kernel_rfl
  i0 := by kernel_rfl
  i2 := by kernel_rfl
  i3 := by kernel_rfl
  i4 := by kernel_rfl
  i5 := by kernel_rfl
  i9 := by kernel_rfl
  i20 := by kernel_rfl
  i37 := by kernel_rfl
  i46 := by kernel_rfl
  i51 := by kernel_rfl
  i53 := by kernel_rfl
  i171 := by kernel_rfl
  i173 := by kernel_rfl
  i212 := by kernel_rfl
  i232 := by kernel_rfl
  i233 := by kernel_rfl
  m17 := by kernel_rfl
  m18 := by kernel_rfl
  m19 := by kernel_rfl }
open Go.RowKit Go.Sort Go.Lib in
/-- strconv.Itoa: "Itoa is equivalent to FormatInt(int64(i), 10).": i's DECIMAL NUMERAL ('Lib.itoa': a '-' where i is negative, then the digits), FOR EVERY int. The world behind the call: the world before it, new blocks behind the heap (the library's 'var a [24]byte'), draws. (LAID: no walk: one application.) -/
theorem Tryz.strconv_Itoa (n : Int) (h0 : -9223372036854775808 ≤ n) (h1 : n ≤ 9223372036854775807) (w : World) (htab : Lib.TabIs Tryz.prog w "internal/strconv.uint64pow10" .u64 Lib.pow10Tab) :
    Calls Tryz.prog 86 #[.int .i64 n] w fun e w' => e = .returned (.string ⟨(Lib.itoa n).toArray⟩) ∧ ∃ k os, w' = grow (w.drewN k) os := Any.strconv_Itoa Tryz.laysM171 n h0 h1 w htab
def Tryz.laysC172_ren : Go.Shelf.Ren := ⟨fun | 172 => 187 | 244 => 194 | 245 => 195 | 247 => 196 | 279 => 197 | 280 => 198 | 281 => 199 | 282 => 200 | 287 => 201 | 316 => 202 | 171 => 86 | 205 => 92 | 321 => 203 | 322 => 204 | 243 => 109 | 246 => 123 | 283 => 137 | 284 => 138 | 285 => 139 | 286 => 140 | 129 => 155 | 317 => 154 | 318 => 156 | 319 => 157 | 320 => 158 | 337 => 178 | 338 => 179 | n => n, fun | 9 => 9 | 3 => 3 | 75 => 94 | 76 => 156 | 4 => 4 | 5 => 5 | 167 => 274 | 37 => 22 | 0 => 0 | 85 => 275 | 2 => 2 | 168 => 277 | 53 => 203 | 175 => 280 | 46 => 51 | 210 => 283 | 127 => 160 | 145 => 164 | 143 => 162 | 21 => 21 | 171 => 214 | 173 => 217 | 212 => 229 | 51 => 70 | 20 => 20 | 213 => 230 | 232 => 266 | 233 => 267 | 80 => 86 | n => n, fun | 15 => 11 | 16 => 12 | 17 => 2 | 18 => 7 | 19 => 8 | n => n⟩
theorem Tryz.laysC172 : Go.Proofs.LaysC.n172 Tryz.prog Tryz.laysC172_ren := {
  mixed := by kernel_rfl
  f129 := Tryz.func155.trans (congrArg some (by kernel_rfl))
  f171 := Tryz.func86.trans (congrArg some (by kernel_rfl))
  f172 := Tryz.func187.trans (congrArg some (by kernel_rfl))
  f205 := Tryz.func92.trans (congrArg some (by kernel_rfl))
  f243 := Tryz.func109.trans (congrArg some (by kernel_rfl))
  f244 := Tryz.func194.trans (congrArg some (by kernel_rfl))
  f245 := Tryz.func195.trans (congrArg some (by kernel_rfl))
  f246 := Tryz.func123.trans (congrArg some (by kernel_rfl))
  f247 := Tryz.func196.trans (congrArg some (by kernel_rfl))
  f279 := Tryz.func197.trans (congrArg some (by kernel_rfl))
  f280 := Tryz.func198.trans (congrArg some (by kernel_rfl))
  f281 := Tryz.func199.trans (congrArg some (by kernel_rfl))
  f282 := Tryz.func200.trans (congrArg some (by kernel_rfl))
  f283 := Tryz.func137.trans (congrArg some (by kernel_rfl))
  f284 := Tryz.func138.trans (congrArg some (by kernel_rfl))
  f285 := Tryz.func139.trans (congrArg some (by kernel_rfl))
  f286 := Tryz.func140.trans (congrArg some (by kernel_rfl))
  f287 := Tryz.func201.trans (congrArg some (by kernel_rfl))
  f316 := Tryz.func202.trans (congrArg some (by kernel_rfl))
  f317 := Tryz.func154.trans (congrArg some (by kernel_rfl))
  f318 := Tryz.func156.trans (congrArg some (by kernel_rfl))
  f319 := Tryz.func157.trans (congrArg some (by kernel_rfl))
  f320 := Tryz.func158.trans (congrArg some (by kernel_rfl))
  f321 := Tryz.func203.trans (congrArg some (by kernel_rfl))
  f322 := Tryz.func204.trans (congrArg some (by kernel_rfl))
  f337 := Tryz.func178.trans (congrArg some (by kernel_rfl))
  f338 := Tryz.func179.trans (congrArg some (by kernel_rfl))
  t0 := Tryz.underlying0
  a0 := Tryz.isAgg0
  z0 := Tryz.sizeOf0
  v0 := Tryz.zeroValue0
  t2 := Tryz.underlying2
  a2 := Tryz.isAgg2
  z2 := Tryz.sizeOf2
  v2 := Tryz.zeroValue2
  t3 := Tryz.underlying3
  a3 := Tryz.isAgg3
  z3 := Tryz.sizeOf3
  v3 := Tryz.zeroValue3
  t4 := Tryz.underlying4
  a4 := Tryz.isAgg4
  z4 := Tryz.sizeOf4
  v4 := Tryz.zeroValue4
  t5 := Tryz.underlying5
  a5 := Tryz.isAgg5
  z5 := Tryz.sizeOf5
  v5 := Tryz.zeroValue5
  t9 := Tryz.underlying9
  a9 := Tryz.isAgg9
  z9 := Tryz.sizeOf9
  v9 := Tryz.zeroValue9
  t20 := Tryz.underlying20
  a20 := Tryz.isAgg20
  z20 := Tryz.sizeOf20
  v20 := Tryz.zeroValue20
  t21 := Tryz.underlying21
  a21 := Tryz.isAgg21
  z21 := Tryz.sizeOf21
  v21 := Tryz.zeroValue21
  t37 := Tryz.underlying22
  a37 := Tryz.isAgg22
  z37 := Tryz.sizeOf22
  v37 := Tryz.zeroValue22
  t46 := Tryz.underlying51
  a46 := Tryz.isAgg51
  z46 := Tryz.sizeOf51
  v46 := Tryz.zeroValue51
  t51 := Tryz.underlying70
  a51 := Tryz.isAgg70
  z51 := Tryz.sizeOf70
  v51 := Tryz.zeroValue70
  t53 := Tryz.underlying203
  a53 := Tryz.isAgg203
  z53 := Tryz.sizeOf203
  v53 := Tryz.zeroValue203
  t75 := Tryz.underlying94
  a75 := Tryz.isAgg94
  z75 := Tryz.sizeOf94
  v75 := Tryz.zeroValue94
  t76 := Tryz.underlying156
  a76 := Tryz.isAgg156
  z76 := Tryz.sizeOf156
  v76 := Tryz.zeroValue156
  t85 := Tryz.underlying275
  a85 := Tryz.isAgg275
  z85 := Tryz.sizeOf275
  v85 := Tryz.zeroValue275
  t127 := Tryz.underlying160
  a127 := Tryz.isAgg160
  z127 := Tryz.sizeOf160
  v127 := Tryz.zeroValue160
  t143 := Tryz.underlying162
  a143 := Tryz.isAgg162
  z143 := Tryz.sizeOf162
  v143 := Tryz.zeroValue162
  t145 := Tryz.underlying164
  a145 := Tryz.isAgg164
  z145 := Tryz.sizeOf164
  v145 := Tryz.zeroValue164
  t167 := Tryz.underlying274
  a167 := Tryz.isAgg274
  z167 := Tryz.sizeOf274
  v167 := Tryz.zeroValue274
  t168 := Tryz.underlying277
  a168 := Tryz.isAgg277
  z168 := Tryz.sizeOf277
  v168 := Tryz.zeroValue277
  t171 := Tryz.underlying214
  a171 := Tryz.isAgg214
  z171 := Tryz.sizeOf214
  v171 := Tryz.zeroValue214
  t173 := Tryz.underlying217
  a173 := Tryz.isAgg217
  z173 := Tryz.sizeOf217
  v173 := Tryz.zeroValue217
  t175 := Tryz.underlying280
  a175 := Tryz.isAgg280
  z175 := Tryz.sizeOf280
  v175 := Tryz.zeroValue280
  t210 := Tryz.underlying283
  a210 := Tryz.isAgg283
  z210 := Tryz.sizeOf283
  v210 := Tryz.zeroValue283
  t212 := Tryz.underlying229
  a212 := Tryz.isAgg229
  z212 := Tryz.sizeOf229
  v212 := Tryz.zeroValue229
  t213 := Tryz.underlying230
  a213 := Tryz.isAgg230
  z213 := Tryz.sizeOf230
  t232 := Tryz.underlying266
  a232 := Tryz.isAgg266
  z232 := Tryz.sizeOf266
  v232 := Tryz.zeroValue266
  t233 := Tryz.underlying267
  a233 := Tryz.isAgg267
  z233 := Tryz.sizeOf267
  v233 := Tryz.zeroValue267
  g15 := by kernel_rfl
  g16 := by kernel_rfl
  g17 := by kernel_rfl
  g18 := by kernel_rfl
  g19 := by kernel_rfl
  t80 := Tryz.underlying86
  a80 := Tryz.isAgg86
  z80 := Tryz.sizeOf86
  v80 := Tryz.zeroValue86
  i0 := by kernel_rfl
  i2 := by kernel_rfl
  i3 := by kernel_rfl
  i4 := by kernel_rfl
  i5 := by kernel_rfl
  i9 := by kernel_rfl
  i20 := by kernel_rfl
  i21 := by kernel_rfl
  i37 := by kernel_rfl
  i46 := by kernel_rfl
  i51 := by kernel_rfl
  i53 := by kernel_rfl
  i75 := by kernel_rfl
  i76 := by kernel_rfl
  i80 := by kernel_rfl
  i85 := by kernel_rfl
  i127 := by kernel_rfl
  i143 := by kernel_rfl
  i145 := by kernel_rfl
  i167 := by kernel_rfl
  i168 := by kernel_rfl
  i171 := by kernel_rfl
  i173 := by kernel_rfl
  i175 := by kernel_rfl
  i210 := by kernel_rfl
  i212 := by kernel_rfl
  i232 := by kernel_rfl
  i233 := by kernel_rfl
  m15 := by kernel_rfl
  m16 := by kernel_rfl
  m17 := by kernel_rfl
  m18 := by kernel_rfl
  m19 := by kernel_rfl
  c0 := by kernel_rfl
  c2 := by kernel_rfl
  c3 := by kernel_rfl
  c4 := by kernel_rfl
  c5 := by kernel_rfl
  c9 := by kernel_rfl
  c20 := by kernel_rfl
  c21 := by kernel_rfl
  c37 := by kernel_rfl
  c46 := by kernel_rfl
  c51 := by kernel_rfl
  c53 := by kernel_rfl
  c75 := by kernel_rfl
  c76 := by kernel_rfl
  c80 := by kernel_rfl
  c85 := by kernel_rfl
  c127 := by kernel_rfl
  c143 := by kernel_rfl
  c145 := by kernel_rfl
  c167 := by kernel_rfl
  c168 := by kernel_rfl
  c171 := by kernel_rfl
  c173 := by kernel_rfl
  c175 := by kernel_rfl
  c210 := by kernel_rfl
  c212 := by kernel_rfl
  c213 := by kernel_rfl
  c232 := by kernel_rfl
  c233 := by kernel_rfl }
open Go.RowKit in
/-- strconv.Atoi, AT EVERY STRING THAT SPELLS AN int ('Lib.atoiAll .. = .ok v'; of whatever length: leading zeros count): v, AND NO ERROR. The world: as it was, or with the one new row that '[]byte(..)' lays. (LAID: no walk: one application.) -/
theorem Tryz.strconv_Atoi_ok (s : ByteArray) (hmax : s.size ≤ 9223372036854775806) (v : Int) (h : Lib.atoiAll s.data.toList = .ok v) (w : World) :
    Calls Tryz.prog 187 #[.string s] w fun e w' => e = .returned (.tuple #[.int .i64 v, .nilIface]) ∧ (w' = w ∨ ∃ t, w' = Lib.bytesWorld w 5 t) := Any.strconv_Atoi_ok Tryz.laysC172 s hmax v h w
open Go.RowKit in
theorem Tryz.strconv_Atoi_syntax_var (s : ByteArray) (hlim : s.size ≤ 281474976710656) (h : Lib.atoiAll s.data.toList = Lib.atoiAll []) (tp : TypeId) (p : Value) (w : World) (hvar : w.var? Tryz.prog "strconv.ErrSyntax" = some #[.iface tp p]) :
    Calls Tryz.prog 187 #[.string s] w fun e w' => ∃ N, e = .returned (.tuple #[.int .i64 0, .iface 277 (.pointer (some ⟨N, 0, none⟩))]) ∧ w.heap.size ≤ N ∧ w'.heap[N]? = some (.cells #[.string ⟨#[65, 116, 111, 105]⟩, .string s, .iface tp p] 283 (0, 0)) ∧ Below w.heap.size w w' := Any.strconv_Atoi_syntax_var Tryz.laysC172 s hlim h tp p w hvar
open Go.RowKit in
theorem Tryz.strconv_Atoi_range_var (s : ByteArray) (hlim : s.size ≤ 281474976710656) (h : Lib.atoiAll s.data.toList = .range) (tp : TypeId) (p : Value) (w : World) (hvar : w.var? Tryz.prog "strconv.ErrRange" = some #[.iface tp p]) :
    Calls Tryz.prog 187 #[.string s] w fun e w' => ∃ N, e = .returned (.tuple #[.int .i64 (Lib.atoiSat s.data.toList), .iface 277 (.pointer (some ⟨N, 0, none⟩))]) ∧ w.heap.size ≤ N ∧ w'.heap[N]? = some (.cells #[.string ⟨#[65, 116, 111, 105]⟩, .string s, .iface tp p] 283 (0, 0)) ∧ Below w.heap.size w w' := Any.strconv_Atoi_range_var Tryz.laysC172 s hlim h tp p w hvar
def Tryz.lays272_ren : Go.Shelf.Ren := ⟨fun | 272 => 160 | 315 => 180 | n => n, fun | 9 => 9 | 40 => 168 | 4 => 4 | 3 => 3 | 0 => 0 | 21 => 21 | n => n, fun | n => n⟩
theorem Tryz.lays272 : Go.Proofs.Lays.n272 Tryz.prog Tryz.lays272_ren := {
  mixed := by kernel_rfl
  f272 := Tryz.func160.trans (congrArg some (by kernel_rfl))
  f315 := Tryz.func180.trans (congrArg some (by kernel_rfl))
  t0 := Tryz.underlying0
  a0 := Tryz.isAgg0
  z0 := Tryz.sizeOf0
  v0 := Tryz.zeroValue0
  t3 := Tryz.underlying3
  a3 := Tryz.isAgg3
  z3 := Tryz.sizeOf3
  v3 := Tryz.zeroValue3
  t4 := Tryz.underlying4
  a4 := Tryz.isAgg4
  z4 := Tryz.sizeOf4
  v4 := Tryz.zeroValue4
  t9 := Tryz.underlying9
  a9 := Tryz.isAgg9
  z9 := Tryz.sizeOf9
  v9 := Tryz.zeroValue9
  t21 := Tryz.underlying21
  a21 := Tryz.isAgg21
  z21 := Tryz.sizeOf21
  v21 := Tryz.zeroValue21
  t40 := Tryz.underlying168
  a40 := Tryz.isAgg168
  z40 := Tryz.sizeOf168
  v40 := Tryz.zeroValue168 }
def Tryz.lays199_ren : Go.Shelf.Ren := ⟨fun | 199 => 144 | 261 => 161 | 311 => 181 | 312 => 182 | n => n, fun | 21 => 21 | 4 => 4 | 51 => 70 | 141 => 236 | 0 => 0 | 196 => 253 | 193 => 250 | 3 => 3 | 198 => 256 | 49 => 254 | 194 => 251 | 201 => 259 | 226 => 268 | 46 => 51 | 227 => 269 | n => n, fun | 6 => 3 | n => n⟩
theorem Tryz.lays199 : Go.Proofs.Lays.n199 Tryz.prog Tryz.lays199_ren := {
  mixed := by kernel_rfl
  f199 := Tryz.func144.trans (congrArg some (by kernel_rfl))
  f261 := Tryz.func161.trans (congrArg some (by kernel_rfl))
  f311 := Tryz.func181.trans (congrArg some (by kernel_rfl))
  f312 := Tryz.func182.trans (congrArg some (by kernel_rfl))
  t0 := Tryz.underlying0
  a0 := Tryz.isAgg0
  z0 := Tryz.sizeOf0
  v0 := Tryz.zeroValue0
  t3 := Tryz.underlying3
  a3 := Tryz.isAgg3
  z3 := Tryz.sizeOf3
  v3 := Tryz.zeroValue3
  t4 := Tryz.underlying4
  a4 := Tryz.isAgg4
  z4 := Tryz.sizeOf4
  v4 := Tryz.zeroValue4
  t21 := Tryz.underlying21
  a21 := Tryz.isAgg21
  z21 := Tryz.sizeOf21
  v21 := Tryz.zeroValue21
  t46 := Tryz.underlying51
  a46 := Tryz.isAgg51
  z46 := Tryz.sizeOf51
  v46 := Tryz.zeroValue51
  t49 := Tryz.underlying254
  a49 := Tryz.isAgg254
  z49 := Tryz.sizeOf254
  v49 := Tryz.zeroValue254
  t51 := Tryz.underlying70
  a51 := Tryz.isAgg70
  z51 := Tryz.sizeOf70
  v51 := Tryz.zeroValue70
  t141 := Tryz.underlying236
  a141 := Tryz.isAgg236
  z141 := Tryz.sizeOf236
  v141 := Tryz.zeroValue236
  t193 := Tryz.underlying250
  a193 := Tryz.isAgg250
  z193 := Tryz.sizeOf250
  v193 := Tryz.zeroValue250
  t194 := Tryz.underlying251
  a194 := Tryz.isAgg251
  z194 := Tryz.sizeOf251
  v194 := Tryz.zeroValue251
  t196 := Tryz.underlying253
  a196 := Tryz.isAgg253
  z196 := Tryz.sizeOf253
  v196 := Tryz.zeroValue253
  t198 := Tryz.underlying256
  a198 := Tryz.isAgg256
  z198 := Tryz.sizeOf256
  v198 := Tryz.zeroValue256
  t201 := Tryz.underlying259
  a201 := Tryz.isAgg259
  z201 := Tryz.sizeOf259
  v201 := Tryz.zeroValue259
  t226 := Tryz.underlying268
  a226 := Tryz.isAgg268
  z226 := Tryz.sizeOf268
  v226 := Tryz.zeroValue268
  t227 := Tryz.underlying269
  a227 := Tryz.isAgg269
  z227 := Tryz.sizeOf269
  v227 := Tryz.zeroValue269
  g6 := by kernel_rfl }
open Go.RowKit Go.Lib in
/-- **unicode.IsSpace AT EVERY int32.** (LAID: no walk: one application.) -/
theorem Tryz.unicode_IsSpace_any (r : Int) (w : World) (hlo : -2147483648 ≤ r) (hhi : r ≤ 2147483647) (hW : Lib.WhiteTab 3 w) :
    Calls Tryz.prog 144 #[.int .i32 r] w fun e w' => e = .returned (.bool (Lib.isSpaceZ r)) ∧ Below w.heap.size w w' := Any.unicode_IsSpace_any Tryz.lays199 r w hlo hhi hW
open Go.RowKit Go.Lib in
theorem Tryz.strings_TrimLeftFunc_grows (g : Nat) (lb : Array Value) (eg : ∀ args w, (callFunc g args).run Tryz.prog w = .ok (.enter g args) w) (p : Nat → Bool) (s : ByteArray) (w : World) (hp : PredGrows Tryz.prog g lb p w) :
    Calls Tryz.prog 160 #[.string s, .func (.func g) #[] lb] w fun e w' => e = .returned (.string (Lib.trimLeftF p s)) ∧ Below w.heap.size w w' := Any.strings_TrimLeftFunc_grows Tryz.lays272 g lb eg p s w hp
def Tryz.lays167_ren : Go.Shelf.Ren := ⟨fun | 167 => 124 | 240 => 141 | 276 => 159 | n => n, fun | 0 => 0 | 4 => 4 | 5 => 5 | 9 => 9 | 20 => 20 | 37 => 22 | 70 => 116 | 72 => 118 | 75 => 94 | 80 => 86 | 164 => 233 | n => n, fun | n => n⟩
theorem Tryz.lays167 : Go.Proofs.Lays.n167 Tryz.prog Tryz.lays167_ren := {
  mixed := by kernel_rfl
  f167 := Tryz.func124.trans (congrArg some (by kernel_rfl))
  f240 := Tryz.func141.trans (congrArg some (by kernel_rfl))
  f276 := Tryz.func159.trans (congrArg some (by kernel_rfl))
  t0 := Tryz.underlying0
  a0 := Tryz.isAgg0
  z0 := Tryz.sizeOf0
  v0 := Tryz.zeroValue0
  t4 := Tryz.underlying4
  a4 := Tryz.isAgg4
  z4 := Tryz.sizeOf4
  v4 := Tryz.zeroValue4
  t5 := Tryz.underlying5
  a5 := Tryz.isAgg5
  z5 := Tryz.sizeOf5
  v5 := Tryz.zeroValue5
  t9 := Tryz.underlying9
  a9 := Tryz.isAgg9
  z9 := Tryz.sizeOf9
  v9 := Tryz.zeroValue9
  t20 := Tryz.underlying20
  a20 := Tryz.isAgg20
  z20 := Tryz.sizeOf20
  v20 := Tryz.zeroValue20
  t37 := Tryz.underlying22
  a37 := Tryz.isAgg22
  z37 := Tryz.sizeOf22
  v37 := Tryz.zeroValue22
  t70 := Tryz.underlying116
  a70 := Tryz.isAgg116
  z70 := Tryz.sizeOf116
  v70 := Tryz.zeroValue116
  t72 := Tryz.underlying118
  a72 := Tryz.isAgg118
  z72 := Tryz.sizeOf118
  v72 := Tryz.zeroValue118
  t75 := Tryz.underlying94
  a75 := Tryz.isAgg94
  z75 := Tryz.sizeOf94
  v75 := Tryz.zeroValue94
  t164 := Tryz.underlying233
  a164 := Tryz.isAgg233
  z164 := Tryz.sizeOf233
  v164 := Tryz.zeroValue233 }
theorem Tryz.Builder_Extra_167 : Builder.Extra Tryz.prog Tryz.lays167_ren := {
  sizeBuilder := by kernel_rfl
  liesBuilder := by kernel_rfl
  t5 := Tryz.underlying5
  a5 := Tryz.isAgg5
  z5 := Tryz.sizeOf5
  v5 := Tryz.zeroValue5
  infoByte := by kernel_rfl
  cellsByte := by kernel_rfl
  sizeByte := by kernel_rfl
  neB5 := by decide }
def Tryz.lays166_ren : Go.Shelf.Ren := ⟨fun | 166 => 125 | 240 => 141 | 276 => 159 | n => n, fun | 0 => 0 | 3 => 3 | 4 => 4 | 5 => 5 | 9 => 9 | 20 => 20 | 37 => 22 | 70 => 116 | 72 => 118 | 75 => 94 | 80 => 86 | 164 => 233 | n => n, fun | n => n⟩
theorem Tryz.lays166 : Go.Proofs.Lays.n166 Tryz.prog Tryz.lays166_ren := {
  mixed := by kernel_rfl
  f166 := Tryz.func125.trans (congrArg some (by kernel_rfl))
  f240 := Tryz.func141.trans (congrArg some (by kernel_rfl))
  f276 := Tryz.func159.trans (congrArg some (by kernel_rfl))
  t0 := Tryz.underlying0
  a0 := Tryz.isAgg0
  z0 := Tryz.sizeOf0
  v0 := Tryz.zeroValue0
  t3 := Tryz.underlying3
  a3 := Tryz.isAgg3
  z3 := Tryz.sizeOf3
  v3 := Tryz.zeroValue3
  t4 := Tryz.underlying4
  a4 := Tryz.isAgg4
  z4 := Tryz.sizeOf4
  v4 := Tryz.zeroValue4
  t9 := Tryz.underlying9
  a9 := Tryz.isAgg9
  z9 := Tryz.sizeOf9
  v9 := Tryz.zeroValue9
  t20 := Tryz.underlying20
  a20 := Tryz.isAgg20
  z20 := Tryz.sizeOf20
  v20 := Tryz.zeroValue20
  t37 := Tryz.underlying22
  a37 := Tryz.isAgg22
  z37 := Tryz.sizeOf22
  v37 := Tryz.zeroValue22
  t70 := Tryz.underlying116
  a70 := Tryz.isAgg116
  z70 := Tryz.sizeOf116
  v70 := Tryz.zeroValue116
  t72 := Tryz.underlying118
  a72 := Tryz.isAgg118
  z72 := Tryz.sizeOf118
  v72 := Tryz.zeroValue118
  t75 := Tryz.underlying94
  a75 := Tryz.isAgg94
  z75 := Tryz.sizeOf94
  v75 := Tryz.zeroValue94
  t164 := Tryz.underlying233
  a164 := Tryz.isAgg233
  z164 := Tryz.sizeOf233
  v164 := Tryz.zeroValue233 }
theorem Tryz.Builder_Extra_166 : Builder.Extra Tryz.prog Tryz.lays166_ren := {
  sizeBuilder := by kernel_rfl
  liesBuilder := by kernel_rfl
  t5 := Tryz.underlying5
  a5 := Tryz.isAgg5
  z5 := Tryz.sizeOf5
  v5 := Tryz.zeroValue5
  infoByte := by kernel_rfl
  cellsByte := by kernel_rfl
  sizeByte := by kernel_rfl
  neB5 := by decide }
open Go.RowKit in
/-- (*strings.Builder).WriteByte: "WriteByte appends the byte c to b's buffer. The returned error is always nil.": UNDER Go's OWN LIMIT: the new length takes at most 2^47 bytes. (LAID: no walk: one application.) -/
theorem Tryz.Builder_WriteByte_k (B b : Nat) (bs : List Value) (c : Int) (w : World) (h : Lib.IsBuilderF 118 5 B b bs w) (hlen : bs.length + 1 ≤ 140737488355328) (hBw : B ≤ w.heap.size) :
    Calls Tryz.prog 124 #[.pointer (some ⟨b, 0, none⟩), .int .u8 c] w fun e w' => e = .returned .nilIface ∧ (Lib.BuilderAtF 118 5 B b (.pointer (some ⟨b, 0, none⟩)) (bs ++ [.int .u8 c]) w' ∧ Below B w w' ∧ Lib.OthersKept 5 (some b) w w') := Any.Builder_WriteByte_k Tryz.lays167 Tryz.Builder_Extra_167 B b bs c w h hlen hBw
open Go.RowKit in
/-- (*strings.Builder).WriteString: "WriteString appends the contents of s to b's buffer. It returns the length of s and a nil error.": UNDER Go's OWN LIMIT: the new length takes at most 2^47 bytes. THE FORM '_k': OVER 'Lib.IsBuilderF' (a builder that 'String()' may have read), AND WITH THE FRAME THAT REACHES ABOVE THE BUILDER: 'Lib.OthersKept': every block that is not b and is no row of uint8's stands as it stood: the iterator of a range among them.' HAS READ, TOO: the bytes go in BEHIND what is frozen, or, where there is no room, all goes over into a new row.) (LAID: no walk: one application.) -/
theorem Tryz.Builder_WriteString_k (B b : Nat) (bs : List Value) (s : ByteArray) (w : World) (h : Lib.IsBuilderF 118 5 B b bs w) (hlen : bs.length + s.size ≤ 140737488355328) (hBw : B ≤ w.heap.size) :
    Calls Tryz.prog 125 #[.pointer (some ⟨b, 0, none⟩), .string s] w fun e w' => e = .returned (.tuple #[.int .i64 s.size, .nilIface]) ∧ (Lib.BuilderAtF 118 5 B b (.pointer (some ⟨b, 0, none⟩)) (bs ++ Lib.strCells s) w' ∧ Below B w w' ∧ Lib.OthersKept 5 (some b) w w') := Any.Builder_WriteString_k Tryz.lays166 Tryz.Builder_Extra_166 B b bs s w h hlen hBw
end Go.Proofs
