/-
  DERIVED. GIVEN WITH THE SEED: THE CARDS: each row of YbulkbaliFmtRows.lean that lists a variable, with what it lists TIED to the program's text (the seventh form; the later family's looks); each row that meets fmt, with fmt's text TOLD by the authors' own Lean function (tested against real Go, not proved from fmt's source: count such statements apart). THE CARD IS WHAT COUNTS. Prove the row's statement (the work); the ties are given (YbulkbaliFmtTie.lean); close each card by the builder's one call (the guide's Derived/Test/ToyasCard.lean, 'card_holds'). Laid BY PROGRAM, IN A SANDBOX (cutbox-door.mjs). By AI agents, Wed Nov 11 2026. No macro, syntax, notation, axiom, sorry.
-/
import Derived.Test.YbulkbaliFmtRows
import GoSem.ClaimSeven
namespace Go.Proofs.YbulkbaliFmt
namespace Rows

/-- THE TOLD CARD OF 'wire.LawS2582ARaw'. -/
def lawS2582ARawCard : Claim7 := { stood := { row := lawS2582ARawRow, standIns := [], harness := (true, "a935cd12ecfc8671b08994fd2cce1a27d903da861b034f1e9f98f30997de0268"), looks := false }, told := true, goes := false }
def LawS2582ARawToldSaid : Prop := Claim7.holds Ybaf.pinned (.plain (OpenSpec.ofChange lawS2582ARawSpec)) lawS2582ARawCard
/-- ITS FALSE NEIGHBOUR. Refute it at one input. -/
def LawS2582ARawToldWrongFalsely : Prop := Claim7.holds Ybaf.pinned (.plain (OpenSpec.ofChange lawS2582ARawWrong)) lawS2582ARawCard

/-- THE TOLD CARD OF 'wire.LawS2582ABuilt'. -/
def lawS2582ABuiltCard : Claim7 := { stood := { row := lawS2582ABuiltRow, standIns := [], harness := (true, "a935cd12ecfc8671b08994fd2cce1a27d903da861b034f1e9f98f30997de0268"), looks := false }, told := true, goes := false }
def LawS2582ABuiltToldSaid : Prop := Claim7.holds Ybaf.pinned (.plain (OpenSpec.ofChange lawS2582ABuiltSpec)) lawS2582ABuiltCard
/-- ITS FALSE NEIGHBOUR. Refute it at one input. -/
def LawS2582ABuiltToldWrongFalsely : Prop := Claim7.holds Ybaf.pinned (.plain (OpenSpec.ofChange lawS2582ABuiltWrong)) lawS2582ABuiltCard
end Rows
end Go.Proofs.YbulkbaliFmt
