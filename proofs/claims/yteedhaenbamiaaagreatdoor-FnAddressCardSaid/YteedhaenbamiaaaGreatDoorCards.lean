/-
  DERIVED. GIVEN WITH THE SEED: THE CARDS: each row of YteedhaenbamiaaaGreatDoorRows.lean that lists a variable, with what it lists TIED to the program's text (the seventh form; the later family's looks); each row that meets fmt, with fmt's text TOLD by the authors' own Lean function (tested against real Go, not proved from fmt's source: count such statements apart). THE CARD IS WHAT COUNTS. Prove the row's statement (the work); the ties are given (YteedhaenbamiaaaGreatDoorTie.lean); close each card by the builder's one call (the guide's Derived/Test/ToyasCard.lean, 'card_holds'). Laid BY PROGRAM, IN A SANDBOX (cutbox-door.mjs). By AI agents, Wed Nov 11 2026. No macro, syntax, notation, axiom, sorry.
-/
import Derived.Test.YteedhaenbamiaaaGreatDoorRows
import GoSem.ClaimSeven
namespace Go.Proofs.YteedhaenbamiaaaGreatDoor
namespace Rows

/-- THE TIED CARD OF 'laws.FnHosts'. -/
def fnHostsCard : Claim7 := { stood := { row := fnHostsRow, standIns := [], harness := (true, "4237b3d48c617175b7f7e44183172c2f2a3d3a8fe085d6f7b87c5d2a906a5891"), looks := true }, kinds := [], alts := [], laidByText := true, laidKinds := [.data, .data, .data, .sentinel, .sentinel, .listed, .called, .called, .zero], laidTests := true, laidLooks := .later }
def FnHostsCardSaid : Prop := Claim7.holds Tryz.pinned (.plain (OpenSpec.ofChange fnHostsSpec)) fnHostsCard

/-- THE TIED CARD OF 'laws.FnUriText'. -/
def fnUriTextCard : Claim7 := { stood := { row := fnUriTextRow, standIns := [], harness := (true, "4237b3d48c617175b7f7e44183172c2f2a3d3a8fe085d6f7b87c5d2a906a5891"), looks := true }, kinds := [], alts := [], laidByText := true, laidKinds := [.data, .data, .data, .sentinel, .sentinel, .listed, .called, .called, .zero], laidTests := true, laidLooks := .later }
def FnUriTextCardSaid : Prop := Claim7.holds Tryz.pinned (.plain (OpenSpec.ofChange fnUriTextSpec)) fnUriTextCard

/-- THE TIED CARD OF 'laws.FnUriWritten'. -/
def fnUriWrittenCard : Claim7 := { stood := { row := fnUriWrittenRow, standIns := [], harness := (true, "4237b3d48c617175b7f7e44183172c2f2a3d3a8fe085d6f7b87c5d2a906a5891"), looks := true }, kinds := [], alts := [], laidByText := true, laidKinds := [.data, .data, .data, .sentinel, .sentinel, .listed, .called, .called, .zero], laidTests := true, laidLooks := .later }
def FnUriWrittenCardSaid : Prop := Claim7.holds Tryz.pinned (.plain (OpenSpec.ofChange fnUriWrittenSpec)) fnUriWrittenCard

/-- THE TIED CARD OF 'laws.FnAddress'. -/
def fnAddressCard : Claim7 := { stood := { row := fnAddressRow, standIns := [], harness := (true, "4237b3d48c617175b7f7e44183172c2f2a3d3a8fe085d6f7b87c5d2a906a5891"), looks := true }, kinds := [], alts := [], laidByText := true, laidKinds := [.data, .data, .data, .data, .sentinel, .sentinel, .listed, .data, .called, .called, .zero, .pinned], laidTests := true, laidLooks := .later }
def FnAddressCardSaid : Prop := Claim7.holds Tryz.pinned (.plain (OpenSpec.ofChange fnAddressSpec)) fnAddressCard

/-- THE TIED CARD OF 'laws.FnAddressRead'. -/
def fnAddressReadCard : Claim7 := { stood := { row := fnAddressReadRow, standIns := [], harness := (true, "4237b3d48c617175b7f7e44183172c2f2a3d3a8fe085d6f7b87c5d2a906a5891"), looks := true }, kinds := [], alts := [], laidByText := true, laidKinds := [.data, .data, .data, .data, .sentinel, .sentinel, .listed, .data, .called, .called, .zero, .pinned], laidTests := true, laidLooks := .later }
def FnAddressReadCardSaid : Prop := Claim7.holds Tryz.pinned (.plain (OpenSpec.ofChange fnAddressReadSpec)) fnAddressReadCard

/-- THE SECOND FORM's CARD OF 'laws.FnHosts'. -/
def fnHostsUptoCard : Claim7 := { stood := { row := fnHostsUptoRow, standIns := [], harness := (true, "4237b3d48c617175b7f7e44183172c2f2a3d3a8fe085d6f7b87c5d2a906a5891"), looks := true }, kinds := [], alts := [], laidByText := true, laidKinds := [.data, .data, .data, .sentinel, .sentinel, .listed, .called, .called, .zero], laidTests := true, laidLooks := .later }
def FnHostsUptoCardSaid : Prop := Claim7.holds Tryz.pinned (.plain (OpenSpec.upto fnHostsSpec)) fnHostsUptoCard

/-- THE SECOND FORM's CARD OF 'laws.FnUriText'. -/
def fnUriTextUptoCard : Claim7 := { stood := { row := fnUriTextUptoRow, standIns := [], harness := (true, "4237b3d48c617175b7f7e44183172c2f2a3d3a8fe085d6f7b87c5d2a906a5891"), looks := true }, kinds := [], alts := [], laidByText := true, laidKinds := [.data, .data, .data, .sentinel, .sentinel, .listed, .called, .called, .zero], laidTests := true, laidLooks := .later }
def FnUriTextUptoCardSaid : Prop := Claim7.holds Tryz.pinned (.plain (OpenSpec.upto fnUriTextSpec)) fnUriTextUptoCard

/-- THE SECOND FORM's CARD OF 'laws.FnUriWritten'. -/
def fnUriWrittenUptoCard : Claim7 := { stood := { row := fnUriWrittenUptoRow, standIns := [], harness := (true, "4237b3d48c617175b7f7e44183172c2f2a3d3a8fe085d6f7b87c5d2a906a5891"), looks := true }, kinds := [], alts := [], laidByText := true, laidKinds := [.data, .data, .data, .sentinel, .sentinel, .listed, .called, .called, .zero], laidTests := true, laidLooks := .later }
def FnUriWrittenUptoCardSaid : Prop := Claim7.holds Tryz.pinned (.plain (OpenSpec.upto fnUriWrittenSpec)) fnUriWrittenUptoCard

/-- THE SECOND FORM's CARD OF 'laws.FnAddress'. -/
def fnAddressUptoCard : Claim7 := { stood := { row := fnAddressUptoRow, standIns := [], harness := (true, "4237b3d48c617175b7f7e44183172c2f2a3d3a8fe085d6f7b87c5d2a906a5891"), looks := true }, kinds := [], alts := [], laidByText := true, laidKinds := [.data, .data, .data, .data, .sentinel, .sentinel, .listed, .data, .called, .called, .zero, .pinned], laidTests := true, laidLooks := .later }
def FnAddressUptoCardSaid : Prop := Claim7.holds Tryz.pinned (.plain (OpenSpec.upto fnAddressSpec)) fnAddressUptoCard

/-- THE SECOND FORM's CARD OF 'laws.FnAddressRead'. -/
def fnAddressReadUptoCard : Claim7 := { stood := { row := fnAddressReadUptoRow, standIns := [], harness := (true, "4237b3d48c617175b7f7e44183172c2f2a3d3a8fe085d6f7b87c5d2a906a5891"), looks := true }, kinds := [], alts := [], laidByText := true, laidKinds := [.data, .data, .data, .data, .sentinel, .sentinel, .listed, .data, .called, .called, .zero, .pinned], laidTests := true, laidLooks := .later }
def FnAddressReadUptoCardSaid : Prop := Claim7.holds Tryz.pinned (.plain (OpenSpec.upto fnAddressReadSpec)) fnAddressReadUptoCard
end Rows
end Go.Proofs.YteedhaenbamiaaaGreatDoor
