/-
  DERIVED: THE SHELF's CONTRACTS AT THIS DUMP, IN PLAIN WORDS (tools/lay-plain.mjs out of 'TryzShelf.lean', which tools/lay-shelf.mjs wrote): THE SAME DECLARATIONS UNDER THE SAME NAMES: 'import', 'namespace', 'open', 'def', 'theorem' AND NOTHING ELSE: no command of the shelf's: FOR A HAND-IN. Each laying: the table of numbers ('.._ren') and one theorem, a field a fact of the dump's own or the kernel's comparison; each contract: ONE APPLICATION.
-/
import Derived.Shelf.Strings.Builder1
import Derived.Shelf.Strings.Builder2
import Derived.Shelf.Strings.TrimSpace
import Derived.Shelf.Small.Utf8
import Derived.Shelf.Small.Wraps
import Derived.Shelf.Strings.BuilderF
import Derived.Shelf.Strings.BuilderK
import Derived.Shelf.Strings.Builder2Cap
import Derived.Shelf.Strconv.Atoi
import Derived.Shelf.Strconv.Itoa0
import Derived.Shelf.Strconv.Itoa1
import Derived.Shelf.LaysM
import Derived.Shelf.Strconv.Itoa2
import Derived.Shelf.Strconv.Itoa3
import Derived.Shelf.Strconv.AtoiErrFast
import Derived.Shelf.Strconv.ParseIntEmpty
import Derived.Shelf.Strconv.AtoiFail
import Derived.Shelf.Strconv.Clone
import Derived.Shelf.Strconv.SyntaxError
import Derived.Shelf.LaysC
import Derived.Shelf.Strconv.ToError
import Derived.Shelf.Strconv.AtoiErr
import Derived.Shelf.Strconv.Lower
import Derived.Shelf.Strconv.ParseUint10
import Derived.Shelf.Strconv.ParseUint10Empty
import Derived.Shelf.Strconv.ParseUint10Any
import Derived.Shelf.Strconv.ParseInt10
import Derived.Shelf.Strconv.AtoiLong
import Derived.Shelf.Strconv.AtoiInnerAll
import Derived.Shelf.Strconv.RangeError
import Derived.Shelf.Strconv.ToErrorRange
import Derived.Shelf.Strconv.AtoiAll
import Derived.Shelf.Strconv.ErrVarAll
import Derived.Shelf.GgClosure.StringsIndexFunc
import Derived.Shelf.GgClosure.StringsTrimFunc
import Derived.Shelf.GgClosure.StringsRunes
import Derived.Shelf.Strings.Prefix
import Derived.Shelf.Unicode.Latin
import Derived.Shelf.Unicode.DecodeSlow
import Derived.Shelf.Unicode.DecodeAny
import Derived.Shelf.Unicode.Is16White
import Derived.Shelf.Unicode.IsSpaceAny
import Derived.Shelf.Unicode.DecodeLast
import Derived.Shelf.Strings.TrimSpaceAny
import Derived.Shelf.Unicode.Is16WhiteD
import Derived.Shelf.Unicode.IsSpaceAnyD
import Derived.Shelf.Unicode.Is16Any
import Derived.Shelf.Unicode.Is32Any
import Derived.Shelf.Unicode.ExclAny
import Derived.Shelf.Strings.FuncGrows
import Derived.Shelf.Strings.BuilderCap
import Derived.Test.YteedhaenbamiaaaGreatDoorProg
namespace Go.Proofs
open Go.Shelf
def Tryz.lays163_ren : Go.Shelf.Ren := ⟨fun | 163 => 128 | 237 => 143 | 199 => 144 | 238 => 145 | 272 => 160 | 261 => 161 | 273 => 162 | 197 => 163 | 315 => 180 | 311 => 181 | 312 => 182 | 271 => 183 | 260 => 184 | 120 => 193 | n => n, fun | 9 => 9 | 37 => 22 | 3 => 3 | 0 => 0 | 5 => 5 | 4 => 4 | 40 => 168 | 119 => 221 | 21 => 21 | 51 => 70 | 141 => 236 | 105 => 238 | 196 => 253 | 193 => 250 | 198 => 256 | 49 => 254 | 194 => 251 | 201 => 259 | 226 => 268 | 46 => 51 | 227 => 269 | 139 => 272 | 138 => 271 | n => n, fun | 0 => 0 | 6 => 3 | 3 => 9 | 4 => 10 | n => n⟩
theorem Tryz.lays163 : Go.Proofs.Lays.n163 Tryz.prog Tryz.lays163_ren := {
  mixed := by kernel_rfl
  f120 := Tryz.func193.trans (congrArg some (by kernel_rfl))
  f163 := Tryz.func128.trans (congrArg some (by kernel_rfl))
  f197 := Tryz.func163.trans (congrArg some (by kernel_rfl))
  f199 := Tryz.func144.trans (congrArg some (by kernel_rfl))
  f237 := Tryz.func143.trans (congrArg some (by kernel_rfl))
  f238 := Tryz.func145.trans (congrArg some (by kernel_rfl))
  f260 := Tryz.func184.trans (congrArg some (by kernel_rfl))
  f261 := Tryz.func161.trans (congrArg some (by kernel_rfl))
  f271 := Tryz.func183.trans (congrArg some (by kernel_rfl))
  f272 := Tryz.func160.trans (congrArg some (by kernel_rfl))
  f273 := Tryz.func162.trans (congrArg some (by kernel_rfl))
  f311 := Tryz.func181.trans (congrArg some (by kernel_rfl))
  f312 := Tryz.func182.trans (congrArg some (by kernel_rfl))
  f315 := Tryz.func180.trans (congrArg some (by kernel_rfl))
  t0 := Tryz.underlying0
  a0 := Tryz.isAgg0
  z0 := Tryz.sizeOf0
  v0 := Tryz.zeroValue0
  t3 := Tryz.underlying3
  a3 := Tryz.isAgg3
  z3 := Tryz.sizeOf3
  v3 := Tryz.zeroValue3
  t4 := Tryz.underlying4
  a4 := Tryz.isAgg4
  z4 := Tryz.sizeOf4
  v4 := Tryz.zeroValue4
  t5 := Tryz.underlying5
  a5 := Tryz.isAgg5
  z5 := Tryz.sizeOf5
  v5 := Tryz.zeroValue5
  t9 := Tryz.underlying9
  a9 := Tryz.isAgg9
  z9 := Tryz.sizeOf9
  v9 := Tryz.zeroValue9
  t21 := Tryz.underlying21
  a21 := Tryz.isAgg21
  z21 := Tryz.sizeOf21
  v21 := Tryz.zeroValue21
  t37 := Tryz.underlying22
  a37 := Tryz.isAgg22
  z37 := Tryz.sizeOf22
  v37 := Tryz.zeroValue22
  t40 := Tryz.underlying168
  a40 := Tryz.isAgg168
  z40 := Tryz.sizeOf168
  v40 := Tryz.zeroValue168
  t46 := Tryz.underlying51
  a46 := Tryz.isAgg51
  z46 := Tryz.sizeOf51
  v46 := Tryz.zeroValue51
  t49 := Tryz.underlying254
  a49 := Tryz.isAgg254
  z49 := Tryz.sizeOf254
  v49 := Tryz.zeroValue254
  t51 := Tryz.underlying70
  a51 := Tryz.isAgg70
  z51 := Tryz.sizeOf70
  v51 := Tryz.zeroValue70
  t105 := Tryz.underlying238
  a105 := Tryz.isAgg238
  z105 := Tryz.sizeOf238
  v105 := Tryz.zeroValue238
  t119 := Tryz.underlying221
  a119 := Tryz.isAgg221
  z119 := Tryz.sizeOf221
  t138 := Tryz.underlying271
  a138 := Tryz.isAgg271
  z138 := Tryz.sizeOf271
  v138 := Tryz.zeroValue271
  t139 := Tryz.underlying272
  a139 := Tryz.isAgg272
  z139 := Tryz.sizeOf272
  v139 := Tryz.zeroValue272
  t141 := Tryz.underlying236
  a141 := Tryz.isAgg236
  z141 := Tryz.sizeOf236
  v141 := Tryz.zeroValue236
  t193 := Tryz.underlying250
  a193 := Tryz.isAgg250
  z193 := Tryz.sizeOf250
  v193 := Tryz.zeroValue250
  t194 := Tryz.underlying251
  a194 := Tryz.isAgg251
  z194 := Tryz.sizeOf251
  v194 := Tryz.zeroValue251
  t196 := Tryz.underlying253
  a196 := Tryz.isAgg253
  z196 := Tryz.sizeOf253
  v196 := Tryz.zeroValue253
  t198 := Tryz.underlying256
  a198 := Tryz.isAgg256
  z198 := Tryz.sizeOf256
  v198 := Tryz.zeroValue256
  t201 := Tryz.underlying259
  a201 := Tryz.isAgg259
  z201 := Tryz.sizeOf259
  v201 := Tryz.zeroValue259
  t226 := Tryz.underlying268
  a226 := Tryz.isAgg268
  z226 := Tryz.sizeOf268
  v226 := Tryz.zeroValue268
  t227 := Tryz.underlying269
  a227 := Tryz.isAgg269
  z227 := Tryz.sizeOf269
  v227 := Tryz.zeroValue269
  g0 := by kernel_rfl
  g3 := by kernel_rfl
  g4 := by kernel_rfl
  g6 := by kernel_rfl }
theorem Tryz.Space_Extra_163 : Space.Extra Tryz.prog Tryz.lays163_ren := {
  gNamed := by kernel_rfl }
open Go.RowKit in
theorem Tryz.strings_TrimSpace_any (s : ByteArray) (w : World) (hs : s.size ≤ 9223372036854775807) (htab : Lib.TabIs Tryz.prog w "strings.asciiSpace" .u8 Lib.asciiSpaceTab) (hU8 : Lib.Utf8Tabs 9 10 w) (hWS : Lib.WhiteTab 3 w) :
    Calls Tryz.prog 128 #[.string s] w fun e w' => e = .returned (.string ⟨(Lib.trimSpaceD s.data.toList).toArray⟩) ∧ Below w.heap.size w w' := Any.strings_TrimSpace_any Tryz.lays163 Tryz.Space_Extra_163 s w hs htab hU8 hWS
end Go.Proofs
