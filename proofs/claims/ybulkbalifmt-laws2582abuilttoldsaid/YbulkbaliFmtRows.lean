/-
  No cell of these rows narrows 'for every input' (looked for: loops, veiled, ifaces, maps, wideKeys, modest, calm, conditions, laid).
  DERIVED. THE GIVEN ROWS OF THIS SEAT. 2 by the template 'for every input the law returns true; each argument reads behind the call as it read before'; 0 by the template 'total and deterministic' (their statements: YbulkbaliFmtTotals.lean).
  GIVEN WITH THE SEED: the statements are not yours to turn. If you find one false, say at which input.
  Laid BY PROGRAM, IN A SANDBOX (cutbox-rows.mjs): the forced cells as the released guide's own fill.sh prints them over the translation a4178375a8e7050f… (all of the seat's roots in one cut). By AI agents, Wed Nov 11 2026. No macro, syntax, notation, axiom, sorry.
-/
import Derived.Test.YbulkbaliFmtChecked
import GoSem.Claim
import GoSem.ClaimJoined
import GoSem.ClaimMapViews
import Derived.JoinedTies
import Derived.KernelRfl
namespace Go.Proofs.YbulkbaliFmt
/- THE CELL 'sum', in the pinned program and in every row, IS THE sha256 OF THE DUMP (.gsa) THAT YbulkbaliFmtProg.lean LOADS. Nothing in Lean hashes anything: it is a label: what it is worth is what the hold of that sum in a sandbox is worth. -/
noncomputable def Ybaf.pinned : Pinned := { name := "ybulkbalifmt", sum := "a4178375a8e7050fad61bc4670ad5800bca57572b5bce8ce775992e52ba250d7", checked := Ybaf.checked }
namespace Rows
def none {H : Type} : Left H := { results := [], args := [] }

/-- 'wire.LawS2582ARaw': WHATEVER THE INPUT: true; the input reads as it did. -/
def lawS2582ARawSpec : ChangeSpec := { name := "lawS2582ARaw", fn := fun _ => fun
  | [d] => { results := [.lit (.bool true)], args := [d] }
  | _ => none }
def lawS2582ARawRow : OpenClaim := { program := "ybulkbalifmt", sum := "a4178375a8e7050fad61bc4670ad5800bca57572b5bce8ce775992e52ba250d7", func := "example.com/spanmeter/spanmeter/wire.LawS2582ARaw", spec := "lawS2582ARaw", stops := ["fmt.errorf"], inPlace := ["fmt.errorf"], named := ["encoding/binary.BigEndian"], apart := false }
/-- NO THEOREM (fmt's text is open here; it may be false): for the released tool's asking of the row's closed facts alone. THE STATEMENT IS 'LawS2582ARawToldSaid' (YbulkbaliFmtCards.lean). -/
def LawS2582ARawFormAsk : Prop := lawS2582ARawRow.holds Ybaf.pinned (OpenSpec.ofChange lawS2582ARawSpec)

/-- ITS FALSE NEIGHBOUR: 'it returns false'. Refute it at one input. -/
def lawS2582ARawWrong : ChangeSpec := { name := "lawS2582ARaw", fn := fun _ => fun
  | [d] => { results := [.lit (.bool false)], args := [d] }
  | _ => none }
def LawS2582ARawWrongFormAsk : Prop := lawS2582ARawRow.holds Ybaf.pinned (OpenSpec.ofChange lawS2582ARawWrong)

/-- 'wire.LawS2582ABuilt': WHATEVER THE INPUT: true; the input reads as it did. -/
def lawS2582ABuiltSpec : ChangeSpec := { name := "lawS2582ABuilt", fn := fun _ => fun
  | [d1, d2, d3, d4, d5, d6, d7, d8, d9] => { results := [.lit (.bool true)], args := [d1, d2, d3, d4, d5, d6, d7, d8, d9] }
  | _ => none }
def lawS2582ABuiltRow : OpenClaim := { program := "ybulkbalifmt", sum := "a4178375a8e7050fad61bc4670ad5800bca57572b5bce8ce775992e52ba250d7", func := "example.com/spanmeter/spanmeter/wire.LawS2582ABuilt", spec := "lawS2582ABuilt", stops := ["fmt.errorf"], inPlace := ["fmt.errorf"], named := ["encoding/binary.BigEndian"], apart := false }
/-- NO THEOREM (fmt's text is open here; it may be false): for the released tool's asking of the row's closed facts alone. THE STATEMENT IS 'LawS2582ABuiltToldSaid' (YbulkbaliFmtCards.lean). -/
def LawS2582ABuiltFormAsk : Prop := lawS2582ABuiltRow.holds Ybaf.pinned (OpenSpec.ofChange lawS2582ABuiltSpec)

/-- ITS FALSE NEIGHBOUR: 'it returns false'. Refute it at one input. -/
def lawS2582ABuiltWrong : ChangeSpec := { name := "lawS2582ABuilt", fn := fun _ => fun
  | [d1, d2, d3, d4, d5, d6, d7, d8, d9] => { results := [.lit (.bool false)], args := [d1, d2, d3, d4, d5, d6, d7, d8, d9] }
  | _ => none }
def LawS2582ABuiltWrongFormAsk : Prop := lawS2582ABuiltRow.holds Ybaf.pinned (OpenSpec.ofChange lawS2582ABuiltWrong)

end Rows
end Go.Proofs.YbulkbaliFmt
