import Derived.Test.YbulkbaicProg
import Derived.WalkKit
import Derived.WalkSpells
import Derived.WalkLawsBesides
import Derived.Laws.Pointers
namespace Go.Proofs.Ybulkbaic
open Go.RowKit

theorem eql28 (w : World) : (binOp .eql 28 (.iface 39 (.agg #[])) (.iface 39 (.agg #[]))).run Yba.prog w = .ok (.bool true) w := by kernel_rfl
theorem eql20 (w : World) : (binOp .eql 20 .nilIface .nilIface).run Yba.prog w = .ok (.bool true) w := by kernel_rfl
theorem value39 (w : World) : (method 178 39 (.agg #[]) "Value").run Yba.prog w = .ok (24, .agg #[]) w := by kernel_rfl
attribute [local go_sem] eql28 eql20 value39
set_option maxHeartbeats 400000 in
theorem noConn_any (s : ByteArray) (a : Option Addr) (len cap : Nat) (w : World) :
    Calls Yba.prog 3 #[.string s, .slice a len cap] w fun e w' => e = .returned (.bool true) ∧ Below w.heap.size w w' := by
  go_enter Yba.func3, Yba.ntmps3
  go_wp2
  go_ret
  exact ⟨rfl, (((Below.refl _ _).alloc (Nat.le_refl _) _).alloc (by simp) _).alloc (by simp; omega) _⟩
end Go.Proofs.Ybulkbaic
