/-
  DERIVED. GIVEN WITH THE SEED: THE CARDS: each row of YtainljmnhocbgaaGreatDoorRows.lean that lists a variable, with what it lists TIED to the program's text (the seventh form; the later family's looks); each row that meets fmt, with fmt's text TOLD by the authors' own Lean function (tested against real Go, not proved from fmt's source: count such statements apart). THE CARD IS WHAT COUNTS. Prove the row's statement (the work); the ties are given (YtainljmnhocbgaaGreatDoorTie.lean); close each card by the builder's one call (the guide's Derived/Test/ToyasCard.lean, 'card_holds'). Laid BY PROGRAM, IN A SANDBOX (cutbox-door.mjs). By AI agents, Wed Nov 11 2026. No macro, syntax, notation, axiom, sorry.
-/
import Derived.Test.YtainljmnhocbgaaGreatDoorRows
import GoSem.ClaimSeven
namespace Go.Proofs.YtainljmnhocbgaaGreatDoor
namespace Rows

/-- THE TIED CARD OF 'laws.FnParseUri'. -/
def fnParseUriCard : Claim7 := { stood := { row := fnParseUriRow, standIns := [], harness := (true, "ab43792c1b123a75d86349127c0306550ee0201ddf122ce3646e567db398ebed"), looks := true }, kinds := [], alts := [], laidByText := true, laidKinds := [.data, .data, .data, .sentinel, .sentinel, .listed, .called, .called, .zero], laidTests := true, laidLooks := .later }
def FnParseUriCardSaid : Prop := Claim7.holds Tryz.pinned (.plain (OpenSpec.ofChange fnParseUriSpec)) fnParseUriCard

/-- THE TIED CARD OF 'laws.FnUriApart'. -/
def fnUriApartCard : Claim7 := { stood := { row := fnUriApartRow, standIns := [], harness := (true, "ab43792c1b123a75d86349127c0306550ee0201ddf122ce3646e567db398ebed"), looks := true }, kinds := [], alts := [], laidByText := true, laidKinds := [.data, .data, .data, .sentinel, .sentinel, .listed, .called, .called, .zero], laidTests := true, laidLooks := .later }
def FnUriApartCardSaid : Prop := Claim7.holds Tryz.pinned (.plain (OpenSpec.ofChange fnUriApartSpec)) fnUriApartCard

/-- THE TIED CARD OF 'laws.FnUriBack'. -/
def fnUriBackCard : Claim7 := { stood := { row := fnUriBackRow, standIns := [], harness := (true, "ab43792c1b123a75d86349127c0306550ee0201ddf122ce3646e567db398ebed"), looks := true }, kinds := [], alts := [], laidByText := true, laidKinds := [.data, .data, .data, .sentinel, .sentinel, .listed, .called, .called, .zero], laidTests := true, laidLooks := .later }
def FnUriBackCardSaid : Prop := Claim7.holds Tryz.pinned (.plain (OpenSpec.ofChange fnUriBackSpec)) fnUriBackCard

/-- THE TIED CARD OF 'laws.FnUriOther'. -/
def fnUriOtherCard : Claim7 := { stood := { row := fnUriOtherRow, standIns := [], harness := (true, "ab43792c1b123a75d86349127c0306550ee0201ddf122ce3646e567db398ebed"), looks := true }, kinds := [], alts := [], laidByText := true, laidKinds := [.data, .data, .data, .sentinel, .sentinel, .listed, .called, .called, .zero], laidTests := true, laidLooks := .later }
def FnUriOtherCardSaid : Prop := Claim7.holds Tryz.pinned (.plain (OpenSpec.ofChange fnUriOtherSpec)) fnUriOtherCard

/-- THE TIED CARD OF 'laws.FnUriWritten'. -/
def fnUriWrittenCard : Claim7 := { stood := { row := fnUriWrittenRow, standIns := [], harness := (true, "ab43792c1b123a75d86349127c0306550ee0201ddf122ce3646e567db398ebed"), looks := true }, kinds := [], alts := [], laidByText := true, laidKinds := [.data, .data, .data, .sentinel, .sentinel, .listed, .called, .called, .zero], laidTests := true, laidLooks := .later }
def FnUriWrittenCardSaid : Prop := Claim7.holds Tryz.pinned (.plain (OpenSpec.ofChange fnUriWrittenSpec)) fnUriWrittenCard

/-- THE SECOND FORM's CARD OF 'laws.FnParseUri'. -/
def fnParseUriUptoCard : Claim7 := { stood := { row := fnParseUriUptoRow, standIns := [], harness := (true, "ab43792c1b123a75d86349127c0306550ee0201ddf122ce3646e567db398ebed"), looks := true }, kinds := [], alts := [], laidByText := true, laidKinds := [.data, .data, .data, .sentinel, .sentinel, .listed, .called, .called, .zero], laidTests := true, laidLooks := .later }
def FnParseUriUptoCardSaid : Prop := Claim7.holds Tryz.pinned (.plain (OpenSpec.upto fnParseUriSpec)) fnParseUriUptoCard

/-- THE SECOND FORM's CARD OF 'laws.FnUriApart'. -/
def fnUriApartUptoCard : Claim7 := { stood := { row := fnUriApartUptoRow, standIns := [], harness := (true, "ab43792c1b123a75d86349127c0306550ee0201ddf122ce3646e567db398ebed"), looks := true }, kinds := [], alts := [], laidByText := true, laidKinds := [.data, .data, .data, .sentinel, .sentinel, .listed, .called, .called, .zero], laidTests := true, laidLooks := .later }
def FnUriApartUptoCardSaid : Prop := Claim7.holds Tryz.pinned (.plain (OpenSpec.upto fnUriApartSpec)) fnUriApartUptoCard

/-- THE SECOND FORM's CARD OF 'laws.FnUriBack'. -/
def fnUriBackUptoCard : Claim7 := { stood := { row := fnUriBackUptoRow, standIns := [], harness := (true, "ab43792c1b123a75d86349127c0306550ee0201ddf122ce3646e567db398ebed"), looks := true }, kinds := [], alts := [], laidByText := true, laidKinds := [.data, .data, .data, .sentinel, .sentinel, .listed, .called, .called, .zero], laidTests := true, laidLooks := .later }
def FnUriBackUptoCardSaid : Prop := Claim7.holds Tryz.pinned (.plain (OpenSpec.upto fnUriBackSpec)) fnUriBackUptoCard

/-- THE SECOND FORM's CARD OF 'laws.FnUriOther'. -/
def fnUriOtherUptoCard : Claim7 := { stood := { row := fnUriOtherUptoRow, standIns := [], harness := (true, "ab43792c1b123a75d86349127c0306550ee0201ddf122ce3646e567db398ebed"), looks := true }, kinds := [], alts := [], laidByText := true, laidKinds := [.data, .data, .data, .sentinel, .sentinel, .listed, .called, .called, .zero], laidTests := true, laidLooks := .later }
def FnUriOtherUptoCardSaid : Prop := Claim7.holds Tryz.pinned (.plain (OpenSpec.upto fnUriOtherSpec)) fnUriOtherUptoCard

/-- THE SECOND FORM's CARD OF 'laws.FnUriWritten'. -/
def fnUriWrittenUptoCard : Claim7 := { stood := { row := fnUriWrittenUptoRow, standIns := [], harness := (true, "ab43792c1b123a75d86349127c0306550ee0201ddf122ce3646e567db398ebed"), looks := true }, kinds := [], alts := [], laidByText := true, laidKinds := [.data, .data, .data, .sentinel, .sentinel, .listed, .called, .called, .zero], laidTests := true, laidLooks := .later }
def FnUriWrittenUptoCardSaid : Prop := Claim7.holds Tryz.pinned (.plain (OpenSpec.upto fnUriWrittenSpec)) fnUriWrittenUptoCard
end Rows
end Go.Proofs.YtainljmnhocbgaaGreatDoor
