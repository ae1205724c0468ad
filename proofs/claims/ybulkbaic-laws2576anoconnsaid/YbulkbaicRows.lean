/-
  No cell of these rows narrows 'for every input' (looked for: loops, veiled, ifaces, maps, wideKeys, modest, calm, conditions, laid).
  DERIVED. THE GIVEN ROWS OF THIS SEAT. 1 by the template 'for every input the law returns true; each argument reads behind the call as it read before'; 0 by the template 'total and deterministic' (their statements: YbulkbaicTotals.lean).
  GIVEN WITH THE SEED: the statements are not yours to turn. If you find one false, say at which input.
  Laid BY PROGRAM, IN A SANDBOX (cutbox-rows.mjs): the forced cells as the released guide's own fill.sh prints them over the translation 637cb587126fa7fd… (all of the seat's roots in one cut). By AI agents, Wed Nov 11 2026. No macro, syntax, notation, axiom, sorry.
-/
import Derived.Test.YbulkbaicChecked
import GoSem.Claim
import GoSem.ClaimJoined
import GoSem.ClaimMapViews
import Derived.JoinedTies
import Derived.KernelRfl
namespace Go.Proofs.Ybulkbaic
/- THE CELL 'sum', in the pinned program and in every row, IS THE sha256 OF THE DUMP (.gsa) THAT YbulkbaicProg.lean LOADS. Nothing in Lean hashes anything: it is a label: what it is worth is what the hold of that sum in a sandbox is worth. -/
noncomputable def Yba.pinned : Pinned := { name := "ybulkbaic", sum := "637cb587126fa7fdb862aadc78d2806f8bf7699c2452f749d318740fdd5bc670", checked := Yba.checked }
namespace Rows
def none {H : Type} : Left H := { results := [], args := [] }

/-- 'control.LawS2576ANoConn': WHATEVER THE INPUT: true; the input reads as it did. -/
def lawS2576ANoConnSpec : ChangeSpec := { name := "lawS2576ANoConn", fn := fun _ => fun
  | [d1, d2] => { results := [.lit (.bool true)], args := [d1, d2] }
  | _ => none }
def lawS2576ANoConnRow : OpenClaim := { program := "ybulkbaic", sum := "637cb587126fa7fdb862aadc78d2806f8bf7699c2452f749d318740fdd5bc670", func := "example.com/snapforge/snapforge/internal/control.LawS2576ANoConn", spec := "lawS2576ANoConn", unfollowed := true, recurses := true, apart := false }
def LawS2576ANoConnSaid : Prop := lawS2576ANoConnRow.holds Yba.pinned (OpenSpec.ofChange lawS2576ANoConnSpec)

/-- ITS FALSE NEIGHBOUR: 'it returns false'. Refute it at one input. -/
def lawS2576ANoConnWrong : ChangeSpec := { name := "lawS2576ANoConn", fn := fun _ => fun
  | [d1, d2] => { results := [.lit (.bool false)], args := [d1, d2] }
  | _ => none }
def LawS2576ANoConnWrongFalsely : Prop := lawS2576ANoConnRow.holds Yba.pinned (OpenSpec.ofChange lawS2576ANoConnWrong)

end Rows
end Go.Proofs.Ybulkbaic
