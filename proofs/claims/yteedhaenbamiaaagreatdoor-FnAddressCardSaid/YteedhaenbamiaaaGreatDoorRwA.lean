/- From a row's condition to the walks of addresses: the variables that only these rows list. -/
import Derived.Test.YteedhaenbamiaaaGreatDoorRow0
import Derived.Test.YteedhaenbamiaaaGreatDoorAdW
import Derived.Lib.LaidU8T
set_option linter.unusedVariables false
set_option linter.unusedSimpArgs false
namespace Go.Proofs.YteedhaenbamiaaaGreatDoor
open Go.ChangeShapes Go.WideShapes Go.ChangeAt Go.RowKit

theorem gAsc : Tryz.prog.globalNamed "strings.asciiSpace" = some 0 := by kernel_rfl
theorem yAsc : (Tryz.prog.globals[0]?).map (·.type) = some 221 := by kernel_rfl
theorem c256 : Tryz.prog.cellsOf 221 = 256 := by kernel_rfl
set_option maxRecDepth 100000 in
theorem asc_is : (Rows.laid_strings_asciiSpace : DataW Unit) = Lib.tabData .u8 Lib.asciiSpaceTab := by
  unfold Rows.laid_strings_asciiSpace Lib.tabData Lib.asciiSpaceTab
  rfl
theorem asc_of {W : World} (h : Lib.VarReads Tryz.prog W "strings.asciiSpace" Rows.laid_strings_asciiSpace) : Lib.TabIs Tryz.prog W "strings.asciiSpace" .u8 Lib.asciiSpaceTab := by
  obtain ⟨g, t, cs, fuel, p, hg, hty, hvar, hd⟩ := h
  obtain rfl := Option.some.inj (gAsc.symm.trans hg)
  obtain rfl := Option.some.inj (yAsc.symm.trans hty)
  rw [asc_is] at hd
  have := Lib.cells_of_tab Tryz.underlying221 Tryz.underlying5 cU8 c256 hd
  unfold Lib.TabIs
  rw [hvar, ← this]
set_option maxRecDepth 100000 in
theorem first_is : (Rows.laid_unicode_utf8_first : DataW Unit) = Lib.firstData := by
  unfold Rows.laid_unicode_utf8_first Lib.firstData
  rfl
set_option maxRecDepth 100000 in
theorem accept_is : (Rows.laid_unicode_utf8_acceptRanges : DataW Unit) = Lib.acceptData := by
  unfold Rows.laid_unicode_utf8_acceptRanges Lib.acceptData
  rfl
theorem utf8t_of {W : World} (h3 : Lib.VarReads Tryz.prog W "unicode/utf8.first" Rows.laid_unicode_utf8_first) (h4 : Lib.VarReads Tryz.prog W "unicode/utf8.acceptRanges" Rows.laid_unicode_utf8_acceptRanges) :
    Lib.Utf8Tabs 9 10 W := by
  rw [first_is] at h3
  rw [accept_is] at h4
  exact utf8Tabs_of_readsT { Tryz.lays163 with } ⟨by kernel_rfl, by kernel_rfl, by kernel_rfl, by kernel_rfl, by kernel_rfl, by kernel_rfl, by kernel_rfl⟩ h3 h4

/-! ### places apart, reckoned fast -/
def pkey : MemPlace → Nat
  | .cell b o => b * 512 + o
  | .map b => b
def ndB : List MemPlace → Nat → Bool
  | [], _ => true
  | p :: r, acc => !acc.testBit (pkey p) && ndB r (acc ||| 1 <<< pkey p)
theorem ndB_ok : ∀ (l : List MemPlace) (acc : Nat), ndB l acc = true → l.Nodup ∧ ∀ p ∈ l, acc.testBit (pkey p) = false := by
  intro l
  induction l with
  | nil => intro acc _; exact ⟨List.nodup_nil, by simp⟩
  | cons p r ih =>
    intro acc h
    unfold ndB at h
    rw [Bool.and_eq_true, Bool.not_eq_true'] at h
    obtain ⟨h1, h2⟩ := ih _ h.2
    have key : ∀ q ∈ r, acc.testBit (pkey q) = false ∧ pkey q ≠ pkey p := fun q hq => by
      have := h2 q hq
      rw [Nat.testBit_or, Bool.or_eq_false_iff] at this
      refine ⟨this.1, fun e => ?_⟩
      have h3 := this.2
      rw [e, Nat.testBit_shiftLeft] at h3
      simp at h3
    refine ⟨List.nodup_cons.2 ⟨fun hm => (key p hm).2 rfl, h1⟩, fun q hq => ?_⟩
    rcases List.mem_cons.1 hq with rfl | hq
    · exact h.1
    · exact (key q hq).1
theorem laidMet_nd {P : Program} {w : World} {l : List (String × DataW Unit)} (fuel : Nat) (h : (DataW.laidRun P w fuel (l.map (·.1))).map (·.1) = some l)
    (hn : (DataW.laidRun P w fuel (l.map (·.1))).map (fun x => ndB x.2 0) = some true) (hr : (DataW.laidRun P w fuel (l.map (·.1))).map (fun x => laidRowsB P w x.2) = some true) : laidMet P l w := by
  cases hx : DataW.laidRun P w fuel (l.map (·.1)) with
  | none => simp [hx] at h
  | some x =>
    obtain ⟨l', ps⟩ := x
    simp only [hx, Option.map_some, Option.some.injEq] at h hn hr
    subst h
    exact laidMet_of_run fuel hx (decide_eq_true (ndB_ok _ _ hn).1) hr

/-! ### a start that fits: the settled world, the listed variables laid by hand -/
def litOf : DataW Unit → Value
  | .lit (.int k n) => .int k n
  | .lit (.bool b) => .bool b
  | _ => undef
def litsOf : DataW Unit → List Value
  | .agg l => l.map litOf
  | d => [litOf d]
def rowOf : DataW Unit → Array Value
  | .agg l => (l.flatMap litsOf).toArray
  | _ => #[]
def putG (h : Array Obj) (g : Nat) (cs : Array Value) : Array Obj := h.modify g fun
  | .cells _ t frozen => .cells cs t frozen
  | o => o
noncomputable def startA (os : Os) : World :=
  let n := (World.settled Tryz.prog os).heap.size
  let w0 := World.holding Tryz.prog os ⟨#[.cells (Lib.whiteT.map fun (z : Nat) => Value.int .u16 (z : Int)).toArray 256, .cells #[.slice (some ⟨n, 0, none⟩) 7 7, .slice none 0 0, .int .i64 2] 253,
    .cells #[.string ⟨#[118, 97, 108, 117, 101, 32, 111, 117, 116, 32, 111, 102, 32, 114, 97, 110, 103, 101]⟩] 164, .cells #[.string ⟨#[105, 110, 118, 97, 108, 105, 100, 32, 115, 121, 110, 116, 97, 120]⟩] 164,
    .cells #[.bool false, .string ⟨#[]⟩] 225, .cells #[.bool true, .string ⟨#[]⟩] 225], #[], []⟩
  let h1 := putG w0.heap 7 (rowOf Rows.laid_math_bits_deBruijn32tab)
  let h2 := putG h1 8 (rowOf Rows.laid_math_bits_deBruijn64tab)
  let h3 := putG h2 2 (rowOf Rows.laid_internal_strconv_uint64pow10)
  let h4 := putG h3 10 (rowOf Rows.laid_unicode_utf8_acceptRanges)
  let h5 := putG h4 0 (rowOf Rows.laid_strings_asciiSpace)
  let h6 := putG h5 9 (rowOf Rows.laid_unicode_utf8_first)
  let h7 := putG h6 3 #[.pointer (some ⟨n + 1, 0, none⟩)]
  let h8 := putG h7 12 #[.iface 162 (.pointer (some ⟨n + 2, 0, none⟩))]
  let h9 := putG h8 11 #[.iface 162 (.pointer (some ⟨n + 3, 0, none⟩))]
  let h10 := putG h9 5 #[.pointer (some ⟨n + 4, 0, none⟩)]
  let h11 := putG h10 6 #[.pointer (some ⟨n + 5, 0, none⟩)]
  { w0 with heap := h11 }
end Go.Proofs.YteedhaenbamiaaaGreatDoor
