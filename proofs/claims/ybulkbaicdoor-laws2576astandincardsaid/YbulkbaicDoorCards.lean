/-
  DERIVED. GIVEN WITH THE SEED: THE CARDS: each row of YbulkbaicDoorRows.lean that lists a variable, with what it lists TIED to the program's text (the seventh form; the later family's looks); each row that meets fmt, with fmt's text TOLD by the authors' own Lean function (tested against real Go, not proved from fmt's source: count such statements apart). THE CARD IS WHAT COUNTS. Prove the row's statement (the work); the ties are given (YbulkbaicDoorTie.lean); close each card by the builder's one call (the guide's Derived/Test/ToyasCard.lean, 'card_holds'). Laid BY PROGRAM, IN A SANDBOX (cutbox-door.mjs). By AI agents, Wed Nov 11 2026. No macro, syntax, notation, axiom, sorry.
-/
import Derived.Test.YbulkbaicDoorRows
import GoSem.ClaimSeven
namespace Go.Proofs.YbulkbaicDoor
namespace Rows

/-- THE TIED CARD OF 'control.LawS2576AStandIn'. -/
def lawS2576AStandInCard : Claim7 := { stood := { row := lawS2576AStandInRow, standIns := [], harness := (true, "70fee436a852be529386166cb674c764f3c6e5e53854c2093669b466984e2545"), looks := true }, kinds := [], alts := [], laidByText := true, laidKinds := [.wider], laidTests := true, laidLooks := .later }
def LawS2576AStandInCardSaid : Prop := Claim7.holds Ybad.pinned (.plain (OpenSpec.ofChange lawS2576AStandInSpec)) lawS2576AStandInCard
end Rows
end Go.Proofs.YbulkbaicDoor
