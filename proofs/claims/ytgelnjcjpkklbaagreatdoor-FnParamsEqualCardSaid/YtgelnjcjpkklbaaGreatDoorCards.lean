/-
  DERIVED. GIVEN WITH THE SEED: THE CARDS: each row of YtgelnjcjpkklbaaGreatDoorRows.lean that lists a variable, with what it lists TIED to the program's text (the seventh form; the later family's looks); each row that meets fmt, with fmt's text TOLD by the authors' own Lean function (tested against real Go, not proved from fmt's source: count such statements apart). THE CARD IS WHAT COUNTS. Prove the row's statement (the work); the ties are given (YtgelnjcjpkklbaaGreatDoorTie.lean); close each card by the builder's one call (the guide's Derived/Test/ToyasCard.lean, 'card_holds'). Laid BY PROGRAM, IN A SANDBOX (cutbox-door.mjs). By AI agents, Wed Nov 11 2026. No macro, syntax, notation, axiom, sorry.
-/
import Derived.Test.YtgelnjcjpkklbaaGreatDoorRows
import GoSem.ClaimSeven
namespace Go.Proofs.YtgelnjcjpkklbaaGreatDoor
namespace Rows

/-- THE TIED CARD OF 'laws.FnUriWritten'. -/
def fnUriWrittenCard : Claim7 := { stood := { row := fnUriWrittenRow, standIns := [], harness := (true, "ffa3482c825f41cccdb1a35c4bdbfbb2c35360e54c0b0ff646cd9f9ec56d92ce"), looks := true }, kinds := [], alts := [], laidByText := true, laidKinds := [.data, .data, .data, .sentinel, .sentinel, .listed, .called, .called, .zero], laidTests := true, laidLooks := .later }
def FnUriWrittenCardSaid : Prop := Claim7.holds Tryz.pinned (.plain (OpenSpec.ofChange fnUriWrittenSpec)) fnUriWrittenCard

/-- THE TIED CARD OF 'laws.FnParamsEnd'. -/
def fnParamsEndCard : Claim7 := { stood := { row := fnParamsEndRow, standIns := [], harness := (true, "ffa3482c825f41cccdb1a35c4bdbfbb2c35360e54c0b0ff646cd9f9ec56d92ce"), looks := true }, kinds := [], alts := [], laidByText := true, laidKinds := [.data, .data, .data, .sentinel, .sentinel, .listed, .called, .called, .zero], laidTests := true, laidLooks := .later }
def FnParamsEndCardSaid : Prop := Claim7.holds Tryz.pinned (.plain (OpenSpec.ofChange fnParamsEndSpec)) fnParamsEndCard

/-- THE TIED CARD OF 'laws.FnParamsText'. -/
def fnParamsTextCard : Claim7 := { stood := { row := fnParamsTextRow, standIns := [], harness := (true, "ffa3482c825f41cccdb1a35c4bdbfbb2c35360e54c0b0ff646cd9f9ec56d92ce"), looks := true }, kinds := [], alts := [], laidByText := true, laidKinds := [.data, .data, .data, .sentinel, .sentinel, .listed, .called, .called, .zero], laidTests := true, laidLooks := .later }
def FnParamsTextCardSaid : Prop := Claim7.holds Tryz.pinned (.plain (OpenSpec.ofChange fnParamsTextSpec)) fnParamsTextCard

/-- THE TIED CARD OF 'laws.FnParamsBack'. -/
def fnParamsBackCard : Claim7 := { stood := { row := fnParamsBackRow, standIns := [], harness := (true, "ffa3482c825f41cccdb1a35c4bdbfbb2c35360e54c0b0ff646cd9f9ec56d92ce"), looks := true }, kinds := [], alts := [], laidByText := true, laidKinds := [.data, .data, .data, .sentinel, .sentinel, .listed, .called, .called, .zero], laidTests := true, laidLooks := .later }
def FnParamsBackCardSaid : Prop := Claim7.holds Tryz.pinned (.plain (OpenSpec.ofChange fnParamsBackSpec)) fnParamsBackCard

/-- THE TIED CARD OF 'laws.FnParamsSame'. -/
def fnParamsSameCard : Claim7 := { stood := { row := fnParamsSameRow, standIns := [], harness := (true, "ffa3482c825f41cccdb1a35c4bdbfbb2c35360e54c0b0ff646cd9f9ec56d92ce"), looks := true }, kinds := [], alts := [], laidByText := true, laidKinds := [.data, .data, .data, .sentinel, .sentinel, .listed, .called, .called, .zero], laidTests := true, laidLooks := .later }
def FnParamsSameCardSaid : Prop := Claim7.holds Tryz.pinned (.plain (OpenSpec.ofChange fnParamsSameSpec)) fnParamsSameCard

/-- THE TIED CARD OF 'laws.FnParamsActs'. -/
def fnParamsActsCard : Claim7 := { stood := { row := fnParamsActsRow, standIns := [], harness := (true, "ffa3482c825f41cccdb1a35c4bdbfbb2c35360e54c0b0ff646cd9f9ec56d92ce"), looks := true }, kinds := [], alts := [], laidByText := true, laidKinds := [.data, .data, .data, .sentinel, .sentinel, .listed, .called, .called, .zero], laidTests := true, laidLooks := .later }
def FnParamsActsCardSaid : Prop := Claim7.holds Tryz.pinned (.plain (OpenSpec.ofChange fnParamsActsSpec)) fnParamsActsCard

/-- THE TIED CARD OF 'laws.FnParamsDo'. -/
def fnParamsDoCard : Claim7 := { stood := { row := fnParamsDoRow, standIns := [], harness := (true, "ffa3482c825f41cccdb1a35c4bdbfbb2c35360e54c0b0ff646cd9f9ec56d92ce"), looks := true }, kinds := [], alts := [], laidByText := true, laidKinds := [.data, .data, .data, .sentinel, .sentinel, .listed, .called, .called, .zero], laidTests := true, laidLooks := .later }
def FnParamsDoCardSaid : Prop := Claim7.holds Tryz.pinned (.plain (OpenSpec.ofChange fnParamsDoSpec)) fnParamsDoCard

/-- THE TIED CARD OF 'laws.FnParamsEqual'. -/
def fnParamsEqualCard : Claim7 := { stood := { row := fnParamsEqualRow, standIns := [], harness := (true, "ffa3482c825f41cccdb1a35c4bdbfbb2c35360e54c0b0ff646cd9f9ec56d92ce"), looks := true }, kinds := [], alts := [], laidByText := true, laidKinds := [.data, .data, .data, .sentinel, .sentinel, .listed, .called, .called, .zero], laidTests := true, laidLooks := .later }
def FnParamsEqualCardSaid : Prop := Claim7.holds Tryz.pinned (.plain (OpenSpec.ofChange fnParamsEqualSpec)) fnParamsEqualCard

/-- THE TIED CARD OF 'laws.FnUriText'. -/
def fnUriTextCard : Claim7 := { stood := { row := fnUriTextRow, standIns := [], harness := (true, "ffa3482c825f41cccdb1a35c4bdbfbb2c35360e54c0b0ff646cd9f9ec56d92ce"), looks := true }, kinds := [], alts := [], laidByText := true, laidKinds := [.data, .data, .data, .sentinel, .sentinel, .listed, .called, .called, .zero], laidTests := true, laidLooks := .later }
def FnUriTextCardSaid : Prop := Claim7.holds Tryz.pinned (.plain (OpenSpec.ofChange fnUriTextSpec)) fnUriTextCard

/-- THE SECOND FORM's CARD OF 'laws.FnUriWritten'. -/
def fnUriWrittenUptoCard : Claim7 := { stood := { row := fnUriWrittenUptoRow, standIns := [], harness := (true, "ffa3482c825f41cccdb1a35c4bdbfbb2c35360e54c0b0ff646cd9f9ec56d92ce"), looks := true }, kinds := [], alts := [], laidByText := true, laidKinds := [.data, .data, .data, .sentinel, .sentinel, .listed, .called, .called, .zero], laidTests := true, laidLooks := .later }
def FnUriWrittenUptoCardSaid : Prop := Claim7.holds Tryz.pinned (.plain (OpenSpec.upto fnUriWrittenSpec)) fnUriWrittenUptoCard

/-- THE SECOND FORM's CARD OF 'laws.FnParamsEnd'. -/
def fnParamsEndUptoCard : Claim7 := { stood := { row := fnParamsEndUptoRow, standIns := [], harness := (true, "ffa3482c825f41cccdb1a35c4bdbfbb2c35360e54c0b0ff646cd9f9ec56d92ce"), looks := true }, kinds := [], alts := [], laidByText := true, laidKinds := [.data, .data, .data, .sentinel, .sentinel, .listed, .called, .called, .zero], laidTests := true, laidLooks := .later }
def FnParamsEndUptoCardSaid : Prop := Claim7.holds Tryz.pinned (.plain (OpenSpec.upto fnParamsEndSpec)) fnParamsEndUptoCard

/-- THE SECOND FORM's CARD OF 'laws.FnParamsText'. -/
def fnParamsTextUptoCard : Claim7 := { stood := { row := fnParamsTextUptoRow, standIns := [], harness := (true, "ffa3482c825f41cccdb1a35c4bdbfbb2c35360e54c0b0ff646cd9f9ec56d92ce"), looks := true }, kinds := [], alts := [], laidByText := true, laidKinds := [.data, .data, .data, .sentinel, .sentinel, .listed, .called, .called, .zero], laidTests := true, laidLooks := .later }
def FnParamsTextUptoCardSaid : Prop := Claim7.holds Tryz.pinned (.plain (OpenSpec.upto fnParamsTextSpec)) fnParamsTextUptoCard

/-- THE SECOND FORM's CARD OF 'laws.FnParamsBack'. -/
def fnParamsBackUptoCard : Claim7 := { stood := { row := fnParamsBackUptoRow, standIns := [], harness := (true, "ffa3482c825f41cccdb1a35c4bdbfbb2c35360e54c0b0ff646cd9f9ec56d92ce"), looks := true }, kinds := [], alts := [], laidByText := true, laidKinds := [.data, .data, .data, .sentinel, .sentinel, .listed, .called, .called, .zero], laidTests := true, laidLooks := .later }
def FnParamsBackUptoCardSaid : Prop := Claim7.holds Tryz.pinned (.plain (OpenSpec.upto fnParamsBackSpec)) fnParamsBackUptoCard

/-- THE SECOND FORM's CARD OF 'laws.FnParamsSame'. -/
def fnParamsSameUptoCard : Claim7 := { stood := { row := fnParamsSameUptoRow, standIns := [], harness := (true, "ffa3482c825f41cccdb1a35c4bdbfbb2c35360e54c0b0ff646cd9f9ec56d92ce"), looks := true }, kinds := [], alts := [], laidByText := true, laidKinds := [.data, .data, .data, .sentinel, .sentinel, .listed, .called, .called, .zero], laidTests := true, laidLooks := .later }
def FnParamsSameUptoCardSaid : Prop := Claim7.holds Tryz.pinned (.plain (OpenSpec.upto fnParamsSameSpec)) fnParamsSameUptoCard

/-- THE SECOND FORM's CARD OF 'laws.FnParamsActs'. -/
def fnParamsActsUptoCard : Claim7 := { stood := { row := fnParamsActsUptoRow, standIns := [], harness := (true, "ffa3482c825f41cccdb1a35c4bdbfbb2c35360e54c0b0ff646cd9f9ec56d92ce"), looks := true }, kinds := [], alts := [], laidByText := true, laidKinds := [.data, .data, .data, .sentinel, .sentinel, .listed, .called, .called, .zero], laidTests := true, laidLooks := .later }
def FnParamsActsUptoCardSaid : Prop := Claim7.holds Tryz.pinned (.plain (OpenSpec.upto fnParamsActsSpec)) fnParamsActsUptoCard

/-- THE SECOND FORM's CARD OF 'laws.FnParamsDo'. -/
def fnParamsDoUptoCard : Claim7 := { stood := { row := fnParamsDoUptoRow, standIns := [], harness := (true, "ffa3482c825f41cccdb1a35c4bdbfbb2c35360e54c0b0ff646cd9f9ec56d92ce"), looks := true }, kinds := [], alts := [], laidByText := true, laidKinds := [.data, .data, .data, .sentinel, .sentinel, .listed, .called, .called, .zero], laidTests := true, laidLooks := .later }
def FnParamsDoUptoCardSaid : Prop := Claim7.holds Tryz.pinned (.plain (OpenSpec.upto fnParamsDoSpec)) fnParamsDoUptoCard

/-- THE SECOND FORM's CARD OF 'laws.FnParamsEqual'. -/
def fnParamsEqualUptoCard : Claim7 := { stood := { row := fnParamsEqualUptoRow, standIns := [], harness := (true, "ffa3482c825f41cccdb1a35c4bdbfbb2c35360e54c0b0ff646cd9f9ec56d92ce"), looks := true }, kinds := [], alts := [], laidByText := true, laidKinds := [.data, .data, .data, .sentinel, .sentinel, .listed, .called, .called, .zero], laidTests := true, laidLooks := .later }
def FnParamsEqualUptoCardSaid : Prop := Claim7.holds Tryz.pinned (.plain (OpenSpec.upto fnParamsEqualSpec)) fnParamsEqualUptoCard

/-- THE SECOND FORM's CARD OF 'laws.FnUriText'. -/
def fnUriTextUptoCard : Claim7 := { stood := { row := fnUriTextUptoRow, standIns := [], harness := (true, "ffa3482c825f41cccdb1a35c4bdbfbb2c35360e54c0b0ff646cd9f9ec56d92ce"), looks := true }, kinds := [], alts := [], laidByText := true, laidKinds := [.data, .data, .data, .sentinel, .sentinel, .listed, .called, .called, .zero], laidTests := true, laidLooks := .later }
def FnUriTextUptoCardSaid : Prop := Claim7.holds Tryz.pinned (.plain (OpenSpec.upto fnUriTextSpec)) fnUriTextUptoCard
end Rows
end Go.Proofs.YtgelnjcjpkklbaaGreatDoor
