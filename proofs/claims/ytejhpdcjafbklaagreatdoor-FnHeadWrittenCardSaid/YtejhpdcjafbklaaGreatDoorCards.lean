/-
  DERIVED. GIVEN WITH THE SEED: THE CARDS: each row of YtejhpdcjafbklaaGreatDoorRows.lean that lists a variable, with what it lists TIED to the program's text (the seventh form; the later family's looks); each row that meets fmt, with fmt's text TOLD by the authors' own Lean function (tested against real Go, not proved from fmt's source: count such statements apart). THE CARD IS WHAT COUNTS. Prove the row's statement (the work); the ties are given (YtejhpdcjafbklaaGreatDoorTie.lean); close each card by the builder's one call (the guide's Derived/Test/ToyasCard.lean, 'card_holds'). Laid BY PROGRAM, IN A SANDBOX (cutbox-door.mjs). By AI agents, Wed Nov 11 2026. No macro, syntax, notation, axiom, sorry.
-/
import Derived.Test.YtejhpdcjafbklaaGreatDoorRows
import GoSem.ClaimSeven
namespace Go.Proofs.YtejhpdcjafbklaaGreatDoor
namespace Rows

/-- THE TIED CARD OF 'laws.FnHeadWritten'. -/
def fnHeadWrittenCard : Claim7 := { stood := { row := fnHeadWrittenRow, standIns := [], harness := (true, "c87e8d5829c8a8dfe988751b05c9b5518324d4525ba5840a04c18a3f5d153e2f"), looks := true }, kinds := [], alts := [], laidByText := true, laidKinds := [.data, .data, .data, .sentinel, .sentinel, .listed, .called, .called, .zero], laidTests := true, laidLooks := .later }
def FnHeadWrittenCardSaid : Prop := Claim7.holds Tryz.pinned (.plain (OpenSpec.ofChange fnHeadWrittenSpec)) fnHeadWrittenCard

/-- THE SECOND FORM's CARD OF 'laws.FnHeadWritten'. -/
def fnHeadWrittenUptoCard : Claim7 := { stood := { row := fnHeadWrittenUptoRow, standIns := [], harness := (true, "c87e8d5829c8a8dfe988751b05c9b5518324d4525ba5840a04c18a3f5d153e2f"), looks := true }, kinds := [], alts := [], laidByText := true, laidKinds := [.data, .data, .data, .sentinel, .sentinel, .listed, .called, .called, .zero], laidTests := true, laidLooks := .later }
def FnHeadWrittenUptoCardSaid : Prop := Claim7.holds Tryz.pinned (.plain (OpenSpec.upto fnHeadWrittenSpec)) fnHeadWrittenUptoCard
end Rows
end Go.Proofs.YtejhpdcjafbklaaGreatDoor
