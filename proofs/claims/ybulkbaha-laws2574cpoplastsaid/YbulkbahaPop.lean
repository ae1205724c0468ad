import Derived.Test.YbulkbahaProg
import Derived.WalkKit
import Derived.WalkSpells
import Derived.WalkLawsBesides
namespace Go.Proofs.Ybulkbaha
open Go.RowKit

set_option maxHeartbeats 400000 in
theorem pop_any (w : World) (qb g n cap : Nat) (p : Option Addr) (hn : n + 1 ≤ cap) (hcap : cap ≤ 4611686018427387904) (hne : qb ≠ g)
    (hq : w.cell? ⟨qb, 0, none⟩ = some (.slice (some ⟨g, 0, none⟩) (n + 1) cap)) (hqf : w.frozen? ⟨qb, 0, none⟩ = false)
    (hl : w.cell? ⟨g, n, none⟩ = some (.pointer p)) (hlf : w.frozen? ⟨g, n, none⟩ = false) :
    Calls Yba.prog 11 #[.pointer (some ⟨qb, 0, none⟩)] w fun e w' => e = .returned (.iface 33 (.pointer p)) ∧ w' = (w.setCell ⟨g, n, none⟩ (.pointer none)).setCell ⟨qb, 0, none⟩ (.slice (some ⟨g, 0, none⟩) n cap) := by
  go_enter Yba.func11, Yba.ntmps11
  go_wp2
  go_ret
  exact ⟨rfl, rfl⟩
end Go.Proofs.Ybulkbaha
