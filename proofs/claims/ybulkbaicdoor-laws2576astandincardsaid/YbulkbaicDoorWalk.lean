import Derived.Test.YbulkbaicDoorProg
import Derived.WalkKit
import Derived.WalkSpells
import Derived.WalkLawsBesides
import Derived.Laws.Pointers
import Derived.LaidEqlPtr
namespace Go.Proofs.YbulkbaicDoor
open Go.RowKit

theorem neq31 (a : Addr) (w : World) : (binOp .neq 31 (.iface 22 (.pointer (some a))) (.iface 22 (.pointer (some a)))).run Ybad.prog w = .ok (.bool false) w := by
  obtain ⟨i, hi⟩ : ∃ i, Ybad.prog.info? 22 = some i := Option.isSome_iff_exists.1 (by kernel_rfl)
  obtain ⟨j, hj⟩ : ∃ j, Ybad.prog.info? 24 = some j := Option.isSome_iff_exists.1 (by kernel_rfl)
  have hc : (Ybad.prog.info? 22).map (fun i => i.comparable) = some true := by kernel_rfl
  rw [hi] at hc
  simp only [binOp]
  simp [Op.equal, Op.maxDepth, run_equalIn_iface_ptr_same w 9998 a Ybad.underlying31 Ybad.underlying22 hi (by simpa using hc) hj]
theorem eql25 (a : Addr) (w : World) : (binOp .eql 25 (.pointer (some a)) (.pointer (some a))).run Ybad.prog w = .ok (.bool true) w := by
  obtain ⟨j, hj⟩ : ∃ j, Ybad.prog.info? 28 = some j := Option.isSome_iff_exists.1 (by kernel_rfl)
  exact run_eql_ptr_same w a Ybad.underlying25 hj
theorem assert3 (v : Value) (w : World) : (Instr.typeAssert (.iface 3 v) 20 3 true).run Ybad.prog w = .ok (.tuple #[v, .bool true]) w := by kernel_rfl
theorem assert9 (v : Value) (w : World) : (Instr.typeAssert (.iface 9 v) 20 9 true).run Ybad.prog w = .ok (.tuple #[v, .bool true]) w := by kernel_rfl
theorem assert25 (v : Value) (w : World) : (Instr.typeAssert (.iface 25 v) 33 25 true).run Ybad.prog w = .ok (.tuple #[v, .bool true]) w := by kernel_rfl
theorem value22 (a : Addr) (w : World) : (method 190 22 (.pointer (some a)) "Value").run Ybad.prog w = .ok (23, .pointer (some a)) w := by kernel_rfl
attribute [local go_sem] neq31 eql25 assert3 assert9 assert25 value22
set_option maxHeartbeats 400000 in
theorem standIn_any (s : ByteArray) (n : Int) (w : World) :
    Calls Ybad.prog 3 #[.string s, .int .i64 n] w fun e w' => e = .returned (.bool true) ∧ Below w.heap.size w w' := by
  go_enter Ybad.func3, Ybad.ntmps3
  go_wp2
  go_ret
  exact ⟨rfl, by repeat' (first | exact Below.refl _ _ | (refine Below.alloc ?_ (by simp <;> omega) _))⟩
end Go.Proofs.YbulkbaicDoor
