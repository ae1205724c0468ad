/-
  No cell of these rows narrows 'for every input' (looked for: loops, veiled, ifaces, maps, wideKeys, modest, calm, conditions, laid).
  DERIVED. THE GIVEN ROWS OF THIS SEAT. 4 by the template 'for every input the law returns true; each argument reads behind the call as it read before'; 0 by the template 'total and deterministic' (their statements: YbulkbahaTotals.lean).
  GIVEN WITH THE SEED: the statements are not yours to turn. If you find one false, say at which input.
  Laid BY PROGRAM, IN A SANDBOX (cutbox-rows.mjs): the forced cells as the released guide's own fill.sh prints them over the translation f67fc4137bd6c525… (all of the seat's roots in one cut). By AI agents, Wed Nov 11 2026. No macro, syntax, notation, axiom, sorry.
-/
import Derived.Test.YbulkbahaChecked
import GoSem.Claim
import GoSem.ClaimJoined
import GoSem.ClaimMapViews
import Derived.JoinedTies
import Derived.KernelRfl
namespace Go.Proofs.Ybulkbaha
/- THE CELL 'sum', in the pinned program and in every row, IS THE sha256 OF THE DUMP (.gsa) THAT YbulkbahaProg.lean LOADS. Nothing in Lean hashes anything: it is a label: what it is worth is what the hold of that sum in a sandbox is worth. -/
noncomputable def Yba.pinned : Pinned := { name := "ybulkbaha", sum := "f67fc4137bd6c525c44f8957dd267fbdf26631978ba467d3756c0dec9f8dee12", checked := Yba.checked }
namespace Rows
def none {H : Type} : Left H := { results := [], args := [] }

/-- 'horae.LawS2574AExact': WHATEVER THE INPUT: true; the input reads as it did. -/
def lawS2574AExactSpec : ChangeSpec := { name := "lawS2574AExact", fn := fun _ => fun
  | [d1, d2] => { results := [.lit (.bool true)], args := [d1, d2] }
  | _ => none }
def lawS2574AExactRow : OpenClaim := { program := "ybulkbaha", sum := "f67fc4137bd6c525c44f8957dd267fbdf26631978ba467d3756c0dec9f8dee12", func := "example.com/horae/horae.LawS2574AExact", spec := "lawS2574AExact", named := ["math/bits.divideError", "math/bits.overflowError"], apart := false }
def LawS2574AExactSaid : Prop := lawS2574AExactRow.holds Yba.pinned (OpenSpec.ofChange lawS2574AExactSpec)

/-- ITS FALSE NEIGHBOUR: 'it returns false'. Refute it at one input. -/
def lawS2574AExactWrong : ChangeSpec := { name := "lawS2574AExact", fn := fun _ => fun
  | [d1, d2] => { results := [.lit (.bool false)], args := [d1, d2] }
  | _ => none }
def LawS2574AExactWrongFalsely : Prop := lawS2574AExactRow.holds Yba.pinned (OpenSpec.ofChange lawS2574AExactWrong)

/-- 'horae.LawS2574AOrder': WHATEVER THE INPUT: true; the input reads as it did. -/
def lawS2574AOrderSpec : ChangeSpec := { name := "lawS2574AOrder", fn := fun _ => fun
  | [d1, d2, d3] => { results := [.lit (.bool true)], args := [d1, d2, d3] }
  | _ => none }
def lawS2574AOrderRow : OpenClaim := { program := "ybulkbaha", sum := "f67fc4137bd6c525c44f8957dd267fbdf26631978ba467d3756c0dec9f8dee12", func := "example.com/horae/horae.LawS2574AOrder", spec := "lawS2574AOrder", named := ["math/bits.divideError", "math/bits.overflowError"], apart := false }
def LawS2574AOrderSaid : Prop := lawS2574AOrderRow.holds Yba.pinned (OpenSpec.ofChange lawS2574AOrderSpec)

/-- ITS FALSE NEIGHBOUR: 'it returns false'. Refute it at one input. -/
def lawS2574AOrderWrong : ChangeSpec := { name := "lawS2574AOrder", fn := fun _ => fun
  | [d1, d2, d3] => { results := [.lit (.bool false)], args := [d1, d2, d3] }
  | _ => none }
def LawS2574AOrderWrongFalsely : Prop := lawS2574AOrderRow.holds Yba.pinned (OpenSpec.ofChange lawS2574AOrderWrong)

/-- 'horae.LawS2574CPopLast': WHATEVER THE INPUT: true; the input reads as it did. -/
def lawS2574CPopLastSpec : ChangeSpec := { name := "lawS2574CPopLast", fn := fun _ => fun
  | [d] => { results := [.lit (.bool true)], args := [d] }
  | _ => none }
def lawS2574CPopLastRow : OpenClaim := { program := "ybulkbaha", sum := "f67fc4137bd6c525c44f8957dd267fbdf26631978ba467d3756c0dec9f8dee12", func := "example.com/horae/horae.LawS2574CPopLast", spec := "lawS2574CPopLast", apart := false }
def LawS2574CPopLastSaid : Prop := lawS2574CPopLastRow.holds Yba.pinned (OpenSpec.ofChange lawS2574CPopLastSpec)

/-- ITS FALSE NEIGHBOUR: 'it returns false'. Refute it at one input. -/
def lawS2574CPopLastWrong : ChangeSpec := { name := "lawS2574CPopLast", fn := fun _ => fun
  | [d] => { results := [.lit (.bool false)], args := [d] }
  | _ => none }
def LawS2574CPopLastWrongFalsely : Prop := lawS2574CPopLastRow.holds Yba.pinned (OpenSpec.ofChange lawS2574CPopLastWrong)

/-- 'horae.LawS2574CHeapSorts': WHATEVER THE INPUT: true; the input reads as it did. -/
def lawS2574CHeapSortsSpec : ChangeSpec := { name := "lawS2574CHeapSorts", fn := fun _ => fun
  | [d] => { results := [.lit (.bool true)], args := [d] }
  | _ => none }
def lawS2574CHeapSortsRow : OpenClaim := { program := "ybulkbaha", sum := "f67fc4137bd6c525c44f8957dd267fbdf26631978ba467d3756c0dec9f8dee12", func := "example.com/horae/horae.LawS2574CHeapSorts", spec := "lawS2574CHeapSorts", unfollowed := true, recurses := true, apart := false }
def LawS2574CHeapSortsSaid : Prop := lawS2574CHeapSortsRow.holds Yba.pinned (OpenSpec.ofChange lawS2574CHeapSortsSpec)

/-- ITS FALSE NEIGHBOUR: 'it returns false'. Refute it at one input. -/
def lawS2574CHeapSortsWrong : ChangeSpec := { name := "lawS2574CHeapSorts", fn := fun _ => fun
  | [d] => { results := [.lit (.bool false)], args := [d] }
  | _ => none }
def LawS2574CHeapSortsWrongFalsely : Prop := lawS2574CHeapSortsRow.holds Yba.pinned (OpenSpec.ofChange lawS2574CHeapSortsWrong)

end Rows
end Go.Proofs.Ybulkbaha
