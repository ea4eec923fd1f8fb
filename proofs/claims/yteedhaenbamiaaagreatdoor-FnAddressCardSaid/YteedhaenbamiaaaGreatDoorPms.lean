/- Contract: the thin package's Params. -/
import Derived.Test.YteedhaenbamiaaaGreatDoorKnown
set_option linter.unusedVariables false
set_option linter.unusedSimpArgs false
namespace Go.Proofs.YteedhaenbamiaaaGreatDoor
open Go.RowKit

def PmsPost (l : Tx) (sp en : UInt8) (w : World) (e : Ending) (w' : World) : Prop :=
  ∃ (v' : Value) (t : Tx), e = .returned (.tuple #[v', .int .i64 (unm t sp en []).1]) ∧ TrimT l t ∧ Kq (w.heap.size ≤ ·) w' v' (unm t sp en []).2 ∧ Le w w'
end Go.Proofs.YteedhaenbamiaaaGreatDoor
