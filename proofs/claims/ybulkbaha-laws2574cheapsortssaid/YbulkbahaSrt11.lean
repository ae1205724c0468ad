import Derived.Test.YbulkbahaSrt10
namespace Go.Proofs.Ybulkbaha
open Go.RowKit Go.Sort

set_option maxRecDepth 100000 in
theorem sort_any (blk n : Nat) (d : Array Int) (w : World) (hr : Row w blk d) (hn : d.size = n) (hn2 : n ≤ 1024) :
    Calls Yba.prog 13 #[.slice (some ⟨blk, 0, none⟩) n n] w fun e w' => e = .returned (.tuple #[]) ∧ Row w' blk (sort ltInt d) ∧ (sort ltInt d).size = n ∧ Below blk w w' := by
  go_enter Yba.func13, Yba.ntmps13
  go_wp2_with fail
  refine (bitsLen_any n _ hn2).mono ?_
  rintro e w1 ⟨rfl, rfl⟩
  go_wp2_with fail
  have hl : bitsLen n ≤ 64 := (bitsLen_le_iff n 64).2 (by omega)
  refine (pdqsort_any n blk n 0 n (bitsLen n) d w1 (by omega) hr hn hn2 (by omega) (by omega) hl).mono ?_
  rintro e w2 ⟨rfl, hr2, hz2, hb2⟩
  go_wp2_with fail
  go_returns
  subst hn
  exact ⟨rfl, hr2, hz2, hb2⟩
end Go.Proofs.Ybulkbaha
