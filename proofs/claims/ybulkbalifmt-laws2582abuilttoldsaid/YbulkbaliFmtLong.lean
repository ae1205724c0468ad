import Derived.Test.YbulkbaliFmtBytes
import Derived.ProofKit
namespace Go.Proofs.YbulkbaliFmt
open Go.RowKit

set_option maxRecDepth 100000 in
set_option maxHeartbeats 1000000 in
theorem built_long (x0 x1 x4 x5 pad wd : Nat) (t : Nat → Nat) (ta : Option Addr) (m tcap : Nat) (ea : Option Addr) (el ecap : Nat) (w : World) (hm : 1024 < m) :
    Calls Ybaf.prog 4 #[.int .u8 x0, .int .u8 x1, .int .u8 x4, .int .u8 x5, .int .u16 pad, .int .u32 wd, .agg #[.int .u64 (t 0), .int .u64 (t 1), .int .u64 (t 2), .int .u64 (t 3)], .slice ta m tcap, .slice ea el ecap] w fun e w' => e = .returned (.bool true) ∧ Below w.heap.size w w' := by
  have q1 : (1024 : Int) < m := by omega
  have q1' : decide ((1024 : Int) < m) = true := by simp; omega
  go_enter Ybaf.func4, Ybaf.ntmps4
  go_wp2
  go_ret
  exact ⟨rfl, (Below.refl _ _).alloc (Nat.le_refl _) _⟩

set_option maxRecDepth 100000 in
set_option maxHeartbeats 1000000 in
theorem built_extra (x0 x1 x4 x5 pad wd : Nat) (t : Nat → Nat) (ta : Option Addr) (m tcap : Nat) (ea : Option Addr) (el ecap : Nat) (w : World) (hm : m ≤ 1024) (he : 1024 < el) :
    Calls Ybaf.prog 4 #[.int .u8 x0, .int .u8 x1, .int .u8 x4, .int .u8 x5, .int .u16 pad, .int .u32 wd, .agg #[.int .u64 (t 0), .int .u64 (t 1), .int .u64 (t 2), .int .u64 (t 3)], .slice ta m tcap, .slice ea el ecap] w fun e w' => e = .returned (.bool true) ∧ Below w.heap.size w w' := by
  have q1 : ¬ (1024 : Int) < m := by omega
  have q1' : decide ((1024 : Int) < m) = false := by simp; omega
  have q2 : (1024 : Int) < el := by omega
  have q2' : decide ((1024 : Int) < el) = true := by simp; omega
  go_enter Ybaf.func4, Ybaf.ntmps4
  go_wp2
  go_ret
  exact ⟨rfl, (Below.refl _ _).alloc (Nat.le_refl _) _⟩

end Go.Proofs.YbulkbaliFmt
