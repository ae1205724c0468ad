/-
  NARROWER THAN 'FOR EVERY INPUT', by the rows' own cells (each row's printed sentence says how): LawS2576AStandIn: laid.
  DERIVED. THE GIVEN ROWS OF THIS SEAT. 1 by the template 'for every input the law returns true; each argument reads behind the call as it read before'; 0 by the template 'total and deterministic' (their statements: YbulkbaicDoorTotals.lean).
  GIVEN WITH THE SEED: the statements are not yours to turn. If you find one false, say at which input.
  Laid BY PROGRAM, IN A SANDBOX (cutbox-rows.mjs): the forced cells as the released guide's own fill.sh prints them over the translation 8b3ef1863c13d503… (all of the seat's roots in one cut). By AI agents, Wed Nov 11 2026. No macro, syntax, notation, axiom, sorry.
-/
import Derived.Test.YbulkbaicDoorChecked
import GoSem.Claim
import GoSem.ClaimJoined
import GoSem.ClaimMapViews
import Derived.JoinedTies
import Derived.KernelRfl
namespace Go.Proofs.YbulkbaicDoor
/- THE CELL 'sum', in the pinned program and in every row, IS THE sha256 OF THE DUMP (.gsa) THAT YbulkbaicDoorProg.lean LOADS. Nothing in Lean hashes anything: it is a label: what it is worth is what the hold of that sum in a sandbox is worth. -/
noncomputable def Ybad.pinned : Pinned := { name := "ybulkbaicdoor", sum := "8b3ef1863c13d50320b75c073367e54b61f0e4e323ccb11d7413ed2fff040128", checked := Ybad.checked }
namespace Rows
def none {H : Type} : Left H := { results := [], args := [] }

/- WHAT THE LISTED PACKAGE-LEVEL VARIABLES READ AS WHEN THE CALL BEGINS. Each datum BY PROGRAM (the guide's laid-datum.mjs) off the statement by which the dump's own 'gosem.cut.vars' lays the variable. In a bare row this is a premise. The card (YbulkbaicDoorCards.lean) ties it to the program's text. -/
def laid_io_Discard {H : Type} : DataW H := .iface "io.discard" (.agg [])

/-- 'control.LawS2576AStandIn': WHATEVER THE INPUT: true; the input reads as it did. -/
def lawS2576AStandInSpec : ChangeSpec := { name := "lawS2576AStandIn", fn := fun _ => fun
  | [d1, d2] => { results := [.lit (.bool true)], args := [d1, d2] }
  | _ => none }
def lawS2576AStandInRow : OpenClaim := { program := "ybulkbaicdoor", sum := "8b3ef1863c13d50320b75c073367e54b61f0e4e323ccb11d7413ed2fff040128", func := "example.com/snapforge/snapforge/internal/control.LawS2576AStandIn", spec := "lawS2576AStandIn", unfollowed := true, recurses := true, named := ["io.Discard"], apart := false, laid := [("io.Discard", laid_io_Discard)] }
def LawS2576AStandInSaid : Prop := lawS2576AStandInRow.holds Ybad.pinned (OpenSpec.ofChange lawS2576AStandInSpec)

/-- ITS FALSE NEIGHBOUR: 'it returns false'. Refute it at one input. -/
def lawS2576AStandInWrong : ChangeSpec := { name := "lawS2576AStandIn", fn := fun _ => fun
  | [d1, d2] => { results := [.lit (.bool false)], args := [d1, d2] }
  | _ => none }
def LawS2576AStandInWrongFalsely : Prop := lawS2576AStandInRow.holds Ybad.pinned (OpenSpec.ofChange lawS2576AStandInWrong)

end Rows
end Go.Proofs.YbulkbaicDoor
