/-
  DERIVED. GIVEN WITH THE SEED: THE CARDS: each row of YtbdeohmdpkkpdaaGreatDoorRows.lean that lists a variable, with what it lists TIED to the program's text (the seventh form; the later family's looks); each row that meets fmt, with fmt's text TOLD by the authors' own Lean function (tested against real Go, not proved from fmt's source: count such statements apart). THE CARD IS WHAT COUNTS. Prove the row's statement (the work); the ties are given (YtbdeohmdpkkpdaaGreatDoorTie.lean); close each card by the builder's one call (the guide's Derived/Test/ToyasCard.lean, 'card_holds'). Laid BY PROGRAM, IN A SANDBOX (cutbox-door.mjs). By AI agents, Wed Nov 11 2026. No macro, syntax, notation, axiom, sorry.
-/
import Derived.Test.YtbdeohmdpkkpdaaGreatDoorRows
import GoSem.ClaimSeven
namespace Go.Proofs.YtbdeohmdpkkpdaaGreatDoor
namespace Rows

/-- THE TIED CARD OF 'laws.FnPort'. -/
def fnPortCard : Claim7 := { stood := { row := fnPortRow, standIns := [], harness := (true, "84aaaaab2688cdf14ad4ff17e060f37d0c53a2b3c450ee0fc3e538ae99298eb0"), looks := true }, kinds := [], alts := [], laidByText := true, laidKinds := [.data, .data, .data, .sentinel, .sentinel, .listed, .called, .called, .zero], laidTests := true, laidLooks := .later }
def FnPortCardSaid : Prop := Claim7.holds Tryz.pinned (.plain (OpenSpec.ofChange fnPortSpec)) fnPortCard

/-- THE TIED CARD OF 'laws.FnCodes'. -/
def fnCodesCard : Claim7 := { stood := { row := fnCodesRow, standIns := [], harness := (true, "84aaaaab2688cdf14ad4ff17e060f37d0c53a2b3c450ee0fc3e538ae99298eb0"), looks := true }, kinds := [], alts := [], laidByText := true, laidKinds := [.data, .data, .data, .sentinel, .sentinel, .listed, .called, .called, .zero], laidTests := true, laidLooks := .later }
def FnCodesCardSaid : Prop := Claim7.holds Tryz.pinned (.plain (OpenSpec.ofChange fnCodesSpec)) fnCodesCard

/-- THE TIED CARD OF 'laws.FnLetters'. -/
def fnLettersCard : Claim7 := { stood := { row := fnLettersRow, standIns := [], harness := (true, "84aaaaab2688cdf14ad4ff17e060f37d0c53a2b3c450ee0fc3e538ae99298eb0"), looks := true }, kinds := [], alts := [], laidByText := true, laidKinds := [.data, .data, .data, .sentinel, .sentinel, .listed, .called, .called, .zero], laidTests := true, laidLooks := .later }
def FnLettersCardSaid : Prop := Claim7.holds Tryz.pinned (.plain (OpenSpec.ofChange fnLettersSpec)) fnLettersCard

/-- THE TIED CARD OF 'laws.FnParams'. -/
def fnParamsCard : Claim7 := { stood := { row := fnParamsRow, standIns := [], harness := (true, "84aaaaab2688cdf14ad4ff17e060f37d0c53a2b3c450ee0fc3e538ae99298eb0"), looks := true }, kinds := [], alts := [], laidByText := true, laidKinds := [.data, .data, .data, .sentinel, .sentinel, .listed, .called, .called, .zero], laidTests := true, laidLooks := .later }
def FnParamsCardSaid : Prop := Claim7.holds Tryz.pinned (.plain (OpenSpec.ofChange fnParamsSpec)) fnParamsCard

/-- THE TIED CARD OF 'laws.FnParamsEnd'. -/
def fnParamsEndCard : Claim7 := { stood := { row := fnParamsEndRow, standIns := [], harness := (true, "84aaaaab2688cdf14ad4ff17e060f37d0c53a2b3c450ee0fc3e538ae99298eb0"), looks := true }, kinds := [], alts := [], laidByText := true, laidKinds := [.data, .data, .data, .sentinel, .sentinel, .listed, .called, .called, .zero], laidTests := true, laidLooks := .later }
def FnParamsEndCardSaid : Prop := Claim7.holds Tryz.pinned (.plain (OpenSpec.ofChange fnParamsEndSpec)) fnParamsEndCard

/-- THE TIED CARD OF 'laws.FnParamsText'. -/
def fnParamsTextCard : Claim7 := { stood := { row := fnParamsTextRow, standIns := [], harness := (true, "84aaaaab2688cdf14ad4ff17e060f37d0c53a2b3c450ee0fc3e538ae99298eb0"), looks := true }, kinds := [], alts := [], laidByText := true, laidKinds := [.data, .data, .data, .sentinel, .sentinel, .listed, .called, .called, .zero], laidTests := true, laidLooks := .later }
def FnParamsTextCardSaid : Prop := Claim7.holds Tryz.pinned (.plain (OpenSpec.ofChange fnParamsTextSpec)) fnParamsTextCard

/-- THE TIED CARD OF 'laws.FnParamsBack'. -/
def fnParamsBackCard : Claim7 := { stood := { row := fnParamsBackRow, standIns := [], harness := (true, "84aaaaab2688cdf14ad4ff17e060f37d0c53a2b3c450ee0fc3e538ae99298eb0"), looks := true }, kinds := [], alts := [], laidByText := true, laidKinds := [.data, .data, .data, .sentinel, .sentinel, .listed, .called, .called, .zero], laidTests := true, laidLooks := .later }
def FnParamsBackCardSaid : Prop := Claim7.holds Tryz.pinned (.plain (OpenSpec.ofChange fnParamsBackSpec)) fnParamsBackCard

/-- THE TIED CARD OF 'laws.FnParamsSame'. -/
def fnParamsSameCard : Claim7 := { stood := { row := fnParamsSameRow, standIns := [], harness := (true, "84aaaaab2688cdf14ad4ff17e060f37d0c53a2b3c450ee0fc3e538ae99298eb0"), looks := true }, kinds := [], alts := [], laidByText := true, laidKinds := [.data, .data, .data, .sentinel, .sentinel, .listed, .called, .called, .zero], laidTests := true, laidLooks := .later }
def FnParamsSameCardSaid : Prop := Claim7.holds Tryz.pinned (.plain (OpenSpec.ofChange fnParamsSameSpec)) fnParamsSameCard

/-- THE TIED CARD OF 'laws.FnParamsActs'. -/
def fnParamsActsCard : Claim7 := { stood := { row := fnParamsActsRow, standIns := [], harness := (true, "84aaaaab2688cdf14ad4ff17e060f37d0c53a2b3c450ee0fc3e538ae99298eb0"), looks := true }, kinds := [], alts := [], laidByText := true, laidKinds := [.data, .data, .data, .sentinel, .sentinel, .listed, .called, .called, .zero], laidTests := true, laidLooks := .later }
def FnParamsActsCardSaid : Prop := Claim7.holds Tryz.pinned (.plain (OpenSpec.ofChange fnParamsActsSpec)) fnParamsActsCard

/-- THE TIED CARD OF 'laws.FnParamsDo'. -/
def fnParamsDoCard : Claim7 := { stood := { row := fnParamsDoRow, standIns := [], harness := (true, "84aaaaab2688cdf14ad4ff17e060f37d0c53a2b3c450ee0fc3e538ae99298eb0"), looks := true }, kinds := [], alts := [], laidByText := true, laidKinds := [.data, .data, .data, .sentinel, .sentinel, .listed, .called, .called, .zero], laidTests := true, laidLooks := .later }
def FnParamsDoCardSaid : Prop := Claim7.holds Tryz.pinned (.plain (OpenSpec.ofChange fnParamsDoSpec)) fnParamsDoCard

/-- THE TIED CARD OF 'laws.FnParamsEqual'. -/
def fnParamsEqualCard : Claim7 := { stood := { row := fnParamsEqualRow, standIns := [], harness := (true, "84aaaaab2688cdf14ad4ff17e060f37d0c53a2b3c450ee0fc3e538ae99298eb0"), looks := true }, kinds := [], alts := [], laidByText := true, laidKinds := [.data, .data, .data, .sentinel, .sentinel, .listed, .called, .called, .zero], laidTests := true, laidLooks := .later }
def FnParamsEqualCardSaid : Prop := Claim7.holds Tryz.pinned (.plain (OpenSpec.ofChange fnParamsEqualSpec)) fnParamsEqualCard

/-- THE SECOND FORM's CARD OF 'laws.FnPort'. -/
def fnPortUptoCard : Claim7 := { stood := { row := fnPortUptoRow, standIns := [], harness := (true, "84aaaaab2688cdf14ad4ff17e060f37d0c53a2b3c450ee0fc3e538ae99298eb0"), looks := true }, kinds := [], alts := [], laidByText := true, laidKinds := [.data, .data, .data, .sentinel, .sentinel, .listed, .called, .called, .zero], laidTests := true, laidLooks := .later }
def FnPortUptoCardSaid : Prop := Claim7.holds Tryz.pinned (.plain (OpenSpec.upto fnPortSpec)) fnPortUptoCard

/-- THE SECOND FORM's CARD OF 'laws.FnCodes'. -/
def fnCodesUptoCard : Claim7 := { stood := { row := fnCodesUptoRow, standIns := [], harness := (true, "84aaaaab2688cdf14ad4ff17e060f37d0c53a2b3c450ee0fc3e538ae99298eb0"), looks := true }, kinds := [], alts := [], laidByText := true, laidKinds := [.data, .data, .data, .sentinel, .sentinel, .listed, .called, .called, .zero], laidTests := true, laidLooks := .later }
def FnCodesUptoCardSaid : Prop := Claim7.holds Tryz.pinned (.plain (OpenSpec.upto fnCodesSpec)) fnCodesUptoCard

/-- THE SECOND FORM's CARD OF 'laws.FnLetters'. -/
def fnLettersUptoCard : Claim7 := { stood := { row := fnLettersUptoRow, standIns := [], harness := (true, "84aaaaab2688cdf14ad4ff17e060f37d0c53a2b3c450ee0fc3e538ae99298eb0"), looks := true }, kinds := [], alts := [], laidByText := true, laidKinds := [.data, .data, .data, .sentinel, .sentinel, .listed, .called, .called, .zero], laidTests := true, laidLooks := .later }
def FnLettersUptoCardSaid : Prop := Claim7.holds Tryz.pinned (.plain (OpenSpec.upto fnLettersSpec)) fnLettersUptoCard

/-- THE SECOND FORM's CARD OF 'laws.FnParams'. -/
def fnParamsUptoCard : Claim7 := { stood := { row := fnParamsUptoRow, standIns := [], harness := (true, "84aaaaab2688cdf14ad4ff17e060f37d0c53a2b3c450ee0fc3e538ae99298eb0"), looks := true }, kinds := [], alts := [], laidByText := true, laidKinds := [.data, .data, .data, .sentinel, .sentinel, .listed, .called, .called, .zero], laidTests := true, laidLooks := .later }
def FnParamsUptoCardSaid : Prop := Claim7.holds Tryz.pinned (.plain (OpenSpec.upto fnParamsSpec)) fnParamsUptoCard

/-- THE SECOND FORM's CARD OF 'laws.FnParamsEnd'. -/
def fnParamsEndUptoCard : Claim7 := { stood := { row := fnParamsEndUptoRow, standIns := [], harness := (true, "84aaaaab2688cdf14ad4ff17e060f37d0c53a2b3c450ee0fc3e538ae99298eb0"), looks := true }, kinds := [], alts := [], laidByText := true, laidKinds := [.data, .data, .data, .sentinel, .sentinel, .listed, .called, .called, .zero], laidTests := true, laidLooks := .later }
def FnParamsEndUptoCardSaid : Prop := Claim7.holds Tryz.pinned (.plain (OpenSpec.upto fnParamsEndSpec)) fnParamsEndUptoCard

/-- THE SECOND FORM's CARD OF 'laws.FnParamsText'. -/
def fnParamsTextUptoCard : Claim7 := { stood := { row := fnParamsTextUptoRow, standIns := [], harness := (true, "84aaaaab2688cdf14ad4ff17e060f37d0c53a2b3c450ee0fc3e538ae99298eb0"), looks := true }, kinds := [], alts := [], laidByText := true, laidKinds := [.data, .data, .data, .sentinel, .sentinel, .listed, .called, .called, .zero], laidTests := true, laidLooks := .later }
def FnParamsTextUptoCardSaid : Prop := Claim7.holds Tryz.pinned (.plain (OpenSpec.upto fnParamsTextSpec)) fnParamsTextUptoCard

/-- THE SECOND FORM's CARD OF 'laws.FnParamsBack'. -/
def fnParamsBackUptoCard : Claim7 := { stood := { row := fnParamsBackUptoRow, standIns := [], harness := (true, "84aaaaab2688cdf14ad4ff17e060f37d0c53a2b3c450ee0fc3e538ae99298eb0"), looks := true }, kinds := [], alts := [], laidByText := true, laidKinds := [.data, .data, .data, .sentinel, .sentinel, .listed, .called, .called, .zero], laidTests := true, laidLooks := .later }
def FnParamsBackUptoCardSaid : Prop := Claim7.holds Tryz.pinned (.plain (OpenSpec.upto fnParamsBackSpec)) fnParamsBackUptoCard

/-- THE SECOND FORM's CARD OF 'laws.FnParamsSame'. -/
def fnParamsSameUptoCard : Claim7 := { stood := { row := fnParamsSameUptoRow, standIns := [], harness := (true, "84aaaaab2688cdf14ad4ff17e060f37d0c53a2b3c450ee0fc3e538ae99298eb0"), looks := true }, kinds := [], alts := [], laidByText := true, laidKinds := [.data, .data, .data, .sentinel, .sentinel, .listed, .called, .called, .zero], laidTests := true, laidLooks := .later }
def FnParamsSameUptoCardSaid : Prop := Claim7.holds Tryz.pinned (.plain (OpenSpec.upto fnParamsSameSpec)) fnParamsSameUptoCard

/-- THE SECOND FORM's CARD OF 'laws.FnParamsActs'. -/
def fnParamsActsUptoCard : Claim7 := { stood := { row := fnParamsActsUptoRow, standIns := [], harness := (true, "84aaaaab2688cdf14ad4ff17e060f37d0c53a2b3c450ee0fc3e538ae99298eb0"), looks := true }, kinds := [], alts := [], laidByText := true, laidKinds := [.data, .data, .data, .sentinel, .sentinel, .listed, .called, .called, .zero], laidTests := true, laidLooks := .later }
def FnParamsActsUptoCardSaid : Prop := Claim7.holds Tryz.pinned (.plain (OpenSpec.upto fnParamsActsSpec)) fnParamsActsUptoCard

/-- THE SECOND FORM's CARD OF 'laws.FnParamsDo'. -/
def fnParamsDoUptoCard : Claim7 := { stood := { row := fnParamsDoUptoRow, standIns := [], harness := (true, "84aaaaab2688cdf14ad4ff17e060f37d0c53a2b3c450ee0fc3e538ae99298eb0"), looks := true }, kinds := [], alts := [], laidByText := true, laidKinds := [.data, .data, .data, .sentinel, .sentinel, .listed, .called, .called, .zero], laidTests := true, laidLooks := .later }
def FnParamsDoUptoCardSaid : Prop := Claim7.holds Tryz.pinned (.plain (OpenSpec.upto fnParamsDoSpec)) fnParamsDoUptoCard

/-- THE SECOND FORM's CARD OF 'laws.FnParamsEqual'. -/
def fnParamsEqualUptoCard : Claim7 := { stood := { row := fnParamsEqualUptoRow, standIns := [], harness := (true, "84aaaaab2688cdf14ad4ff17e060f37d0c53a2b3c450ee0fc3e538ae99298eb0"), looks := true }, kinds := [], alts := [], laidByText := true, laidKinds := [.data, .data, .data, .sentinel, .sentinel, .listed, .called, .called, .zero], laidTests := true, laidLooks := .later }
def FnParamsEqualUptoCardSaid : Prop := Claim7.holds Tryz.pinned (.plain (OpenSpec.upto fnParamsEqualSpec)) fnParamsEqualUptoCard
end Rows
end Go.Proofs.YtbdeohmdpkkpdaaGreatDoor
