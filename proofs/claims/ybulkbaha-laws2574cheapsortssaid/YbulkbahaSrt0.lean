import Derived.Test.YbulkbahaProg
import Derived.WalkKit
import Derived.WalkSpells
import Derived.WalkLawsBesides
import Derived.Deep.QuietTactic
import Derived.BigQuiet
import Derived.Below
import Derived.Sort.AssemblyPlain
import Derived.Handy
import Derived.Deep.CutRange
import Derived.Deep.DeepCutAuto
import Derived.Deep.CutBlock
namespace Go.Proofs.Ybulkbaha
open Go.RowKit Go.Sort

/-- A list of words, as cells. -/
def wordsV (d : Array Int) : Array Value := d.map (Value.int .u64)
/-- Block blk is a row of words that holds d. -/
def Row (w : World) (blk : Nat) (d : Array Int) : Prop := w.heap[blk]? = some (.cells (wordsV d) 22 (0, 0))
theorem Row.cell {w : World} {blk : Nat} {d : Array Int} (h : Row w blk d) (j : Nat) (hj : j < d.size) : w.cell? ⟨blk, j, none⟩ = some (.int .u64 d[j]!) := by
  unfold Row at h
  unfold World.cell?
  rw [h]
  simp [wordsV, hj]
theorem Row.free {w : World} {blk : Nat} {d : Array Int} (h : Row w blk d) (j : Nat) : w.frozen? ⟨blk, j, none⟩ = false := by
  unfold Row at h
  unfold World.frozen?
  rw [h]
  simp
theorem Row.lt {w : World} {blk : Nat} {d : Array Int} (h : Row w blk d) : blk < w.heap.size := lt_of_block h
theorem Row.set {w : World} {blk : Nat} {d : Array Int} (h : Row w blk d) (j : Nat) (v : Int) : Row (w.setCell ⟨blk, j, none⟩ (.int .u64 v)) blk (d.setIfInBounds j v) := by
  have h' := heap_setCell_same w blk j (wordsV d) 22 (.int .u64 v) h
  unfold Row
  rw [h']; simp [wordsV]
theorem Row.swap {w : World} {blk : Nat} {d : Array Int} (h : Row w blk d) (i j : Nat) : Row ((w.setCell ⟨blk, i, none⟩ (.int .u64 d[j]!)).setCell ⟨blk, j, none⟩ (.int .u64 d[i]!)) blk (swp d i j) := (h.set i _).set j _
theorem Row.below {w w' : World} {blk : Nat} {d : Array Int} (h : Row w blk d) (hb : Below w.heap.size w w') : Row w' blk d := (hb.block blk h.lt).trans h
theorem Row.drew {w : World} {blk : Nat} {d : Array Int} (h : Row w blk d) : Row w.drew blk d := h
theorem Row.drewN {w : World} {blk : Nat} {d : Array Int} (h : Row w blk d) (n : Nat) : Row (w.drewN n) blk d := h
theorem belN {B : Nat} {a w : World} (h : Below B a w) (n : Nat) : Below B a (w.drewN n) := ⟨h.os, h.tape, h.output, h.size, h.block⟩
theorem size_swp {d : Array Int} (i j : Nat) : (swp d i j).size = d.size := by simp [swp]

theorem wrap_ok (x : Int) (h1 : -1000000 ≤ x) (h2 : x ≤ 1000000) : IntKind.i64.wrap x = x := by
  simp [IntKind.wrap, IntKind.signed, IntKind.bits]
  omega

theorem isNaN_any (x : Int) (w : World) : Calls Yba.prog 39 #[.int .u64 x] w fun e w' => e = .returned (.bool false) ∧ w' = w := by
  go_enter Yba.func39, Yba.ntmps39
  go_wp2
  go_ret
  exact ⟨rfl, rfl⟩

theorem less_any (x y : Int) (w : World) : Calls Yba.prog 30 #[.int .u64 x, .int .u64 y] w fun e w' => e = .returned (.bool (ltInt x y)) ∧ w' = w := by
  go_enter Yba.func30, Yba.ntmps30
  go_wp2_with fail
  refine (isNaN_any x _).mono ?_
  rintro e w1 ⟨rfl, rfl⟩
  go_wp2_with fail
  go_ret
  exact ⟨rfl, rfl⟩
theorem less_drew (x y : Int) (w : World) (q a : Nat) : Calls Yba.prog 30 #[.int .u64 x, .int .u64 y] (w.drewN (q + a)) fun e w' => e = .returned (.bool (ltInt x y)) ∧ ∃ m, w' = w.drewN (q + m) :=
  (less_any x y _).mono fun _ _ ⟨he, hw⟩ => ⟨he, a, hw⟩
end Go.Proofs.Ybulkbaha
