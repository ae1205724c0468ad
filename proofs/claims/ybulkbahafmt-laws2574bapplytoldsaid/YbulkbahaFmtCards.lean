/-
  DERIVED. GIVEN WITH THE SEED: THE CARDS: each row of YbulkbahaFmtRows.lean that lists a variable, with what it lists TIED to the program's text (the seventh form; the later family's looks); each row that meets fmt, with fmt's text TOLD by the authors' own Lean function (tested against real Go, not proved from fmt's source: count such statements apart). THE CARD IS WHAT COUNTS. Prove the row's statement (the work); the ties are given (YbulkbahaFmtTie.lean); close each card by the builder's one call (the guide's Derived/Test/ToyasCard.lean, 'card_holds'). Laid BY PROGRAM, IN A SANDBOX (cutbox-door.mjs). By AI agents, Wed Nov 11 2026. No macro, syntax, notation, axiom, sorry.
-/
import Derived.Test.YbulkbahaFmtRows
import GoSem.ClaimSeven
namespace Go.Proofs.YbulkbahaFmt
namespace Rows

/-- THE TOLD CARD OF 'horae.LawS2574BApply'. -/
def lawS2574BApplyCard : Claim7 := { stood := { row := lawS2574BApplyRow, standIns := [], harness := (true, "a4c1adc72f9f48f0f8e84705f890fde5fc2a5ca5b797504f86cfcc9bb201adb0"), looks := false }, told := true, goes := false }
def LawS2574BApplyToldSaid : Prop := Claim7.holds Ybaf.pinned (.plain (OpenSpec.ofChange lawS2574BApplySpec)) lawS2574BApplyCard
/-- ITS FALSE NEIGHBOUR. Refute it at one input. -/
def LawS2574BApplyToldWrongFalsely : Prop := Claim7.holds Ybaf.pinned (.plain (OpenSpec.ofChange lawS2574BApplyWrong)) lawS2574BApplyCard

/-- THE TOLD CARD OF 'horae.LawS2574BIdempotent'. -/
def lawS2574BIdempotentCard : Claim7 := { stood := { row := lawS2574BIdempotentRow, standIns := [], harness := (true, "a4c1adc72f9f48f0f8e84705f890fde5fc2a5ca5b797504f86cfcc9bb201adb0"), looks := false }, told := true, goes := false }
def LawS2574BIdempotentToldSaid : Prop := Claim7.holds Ybaf.pinned (.plain (OpenSpec.ofChange lawS2574BIdempotentSpec)) lawS2574BIdempotentCard
/-- ITS FALSE NEIGHBOUR. Refute it at one input. -/
def LawS2574BIdempotentToldWrongFalsely : Prop := Claim7.holds Ybaf.pinned (.plain (OpenSpec.ofChange lawS2574BIdempotentWrong)) lawS2574BIdempotentCard
end Rows
end Go.Proofs.YbulkbahaFmt
