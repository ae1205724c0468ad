/-
  No cell of these rows narrows 'for every input' (looked for: loops, veiled, ifaces, maps, wideKeys, modest, calm, conditions, laid).
  DERIVED. THE GIVEN ROWS OF THIS SEAT. 2 by the template 'for every input the law returns true; each argument reads behind the call as it read before'; 0 by the template 'total and deterministic' (their statements: YbulkbahaFmtTotals.lean).
  GIVEN WITH THE SEED: the statements are not yours to turn. If you find one false, say at which input.
  Laid BY PROGRAM, IN A SANDBOX (cutbox-rows.mjs): the forced cells as the released guide's own fill.sh prints them over the translation 153b0e23420735ca… (all of the seat's roots in one cut). By AI agents, Wed Nov 11 2026. No macro, syntax, notation, axiom, sorry.
-/
import Derived.Test.YbulkbahaFmtChecked
import GoSem.Claim
import GoSem.ClaimJoined
import GoSem.ClaimMapViews
import Derived.JoinedTies
import Derived.KernelRfl
namespace Go.Proofs.YbulkbahaFmt
/- THE CELL 'sum', in the pinned program and in every row, IS THE sha256 OF THE DUMP (.gsa) THAT YbulkbahaFmtProg.lean LOADS. Nothing in Lean hashes anything: it is a label: what it is worth is what the hold of that sum in a sandbox is worth. -/
noncomputable def Ybaf.pinned : Pinned := { name := "ybulkbahafmt", sum := "153b0e23420735ca3299ac4ba36da2b8873651781e801ed098cc0046f6f2c9e1", checked := Ybaf.checked }
namespace Rows
def none {H : Type} : Left H := { results := [], args := [] }

/-- 'horae.LawS2574BApply': WHATEVER THE INPUT: true; the input reads as it did. -/
def lawS2574BApplySpec : ChangeSpec := { name := "lawS2574BApply", fn := fun _ => fun
  | [d1, d2, d3, d4] => { results := [.lit (.bool true)], args := [d1, d2, d3, d4] }
  | _ => none }
def lawS2574BApplyRow : OpenClaim := { program := "ybulkbahafmt", sum := "153b0e23420735ca3299ac4ba36da2b8873651781e801ed098cc0046f6f2c9e1", func := "example.com/horae/horae.LawS2574BApply", spec := "lawS2574BApply", stops := ["fmt.errorf"], inPlace := ["fmt.errorf"], unfollowed := true, recurses := true, apart := false }
/-- NO THEOREM (fmt's text is open here; it may be false): for the released tool's asking of the row's closed facts alone. THE STATEMENT IS 'LawS2574BApplyToldSaid' (YbulkbahaFmtCards.lean). -/
def LawS2574BApplyFormAsk : Prop := lawS2574BApplyRow.holds Ybaf.pinned (OpenSpec.ofChange lawS2574BApplySpec)

/-- ITS FALSE NEIGHBOUR: 'it returns false'. Refute it at one input. -/
def lawS2574BApplyWrong : ChangeSpec := { name := "lawS2574BApply", fn := fun _ => fun
  | [d1, d2, d3, d4] => { results := [.lit (.bool false)], args := [d1, d2, d3, d4] }
  | _ => none }
def LawS2574BApplyWrongFormAsk : Prop := lawS2574BApplyRow.holds Ybaf.pinned (OpenSpec.ofChange lawS2574BApplyWrong)

/-- 'horae.LawS2574BIdempotent': WHATEVER THE INPUT: true; the input reads as it did. -/
def lawS2574BIdempotentSpec : ChangeSpec := { name := "lawS2574BIdempotent", fn := fun _ => fun
  | [d1, d2] => { results := [.lit (.bool true)], args := [d1, d2] }
  | _ => none }
def lawS2574BIdempotentRow : OpenClaim := { program := "ybulkbahafmt", sum := "153b0e23420735ca3299ac4ba36da2b8873651781e801ed098cc0046f6f2c9e1", func := "example.com/horae/horae.LawS2574BIdempotent", spec := "lawS2574BIdempotent", stops := ["fmt.errorf"], inPlace := ["fmt.errorf"], unfollowed := true, recurses := true, apart := false }
/-- NO THEOREM (fmt's text is open here; it may be false): for the released tool's asking of the row's closed facts alone. THE STATEMENT IS 'LawS2574BIdempotentToldSaid' (YbulkbahaFmtCards.lean). -/
def LawS2574BIdempotentFormAsk : Prop := lawS2574BIdempotentRow.holds Ybaf.pinned (OpenSpec.ofChange lawS2574BIdempotentSpec)

/-- ITS FALSE NEIGHBOUR: 'it returns false'. Refute it at one input. -/
def lawS2574BIdempotentWrong : ChangeSpec := { name := "lawS2574BIdempotent", fn := fun _ => fun
  | [d1, d2] => { results := [.lit (.bool false)], args := [d1, d2] }
  | _ => none }
def LawS2574BIdempotentWrongFormAsk : Prop := lawS2574BIdempotentRow.holds Ybaf.pinned (OpenSpec.ofChange lawS2574BIdempotentWrong)

end Rows
end Go.Proofs.YbulkbahaFmt
