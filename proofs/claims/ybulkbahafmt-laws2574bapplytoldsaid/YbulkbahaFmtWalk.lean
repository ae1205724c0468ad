import Derived.Test.YbulkbahaFmtProg
import Derived.Stop.CallBack
import Derived.Stop.IfaceNil
import GoSem.ClaimData
import Derived.WalkKit
import Derived.WalkSpells
import Derived.WalkLawsBesides
namespace Go.Proofs.YbulkbahaFmt
open Go.RowKit Go.Extern.Stop Go.Stop Go.Extern

theorem Ybaf.call8 (args : Array Value) (w : World) : (callFunc 8 args).run Ybaf.prog w = ((FmtStop.errorf #[9, 34] #[29] args).run Ybaf.prog w).andThen fun v w' => .ok (.value v) w' :=
  run_callFunc_extern Ybaf.func8 (by kernel_rfl) (by kernel_rfl) (by kernel_rfl) (by kernel_rfl) args w
theorem Ybaf.guard (name : String) (w : World) : (FmtStop.guard name).run Ybaf.prog w = .ok () w := by kernel_rfl
theorem Ybaf.fmt0 : FmtStop.printed? ⟨#[87, 105, 116, 104, 87, 104, 101, 101, 108, 83, 105, 122, 101, 40, 37, 100, 41, 58, 32, 97, 32, 108, 101, 118, 101, 108, 32, 110, 101, 101, 100, 115, 32, 97, 116, 32, 108, 101, 97, 115, 116, 32, 50, 32, 98, 117, 99, 107, 101, 116, 115]⟩ 1 = some [(0, 100, false)] := by kernel_rfl
theorem Ybaf.fmt0r (w : World) : (FmtDoors.printed ⟨#[87, 105, 116, 104, 87, 104, 101, 101, 108, 83, 105, 122, 101, 40, 37, 100, 41, 58, 32, 97, 32, 108, 101, 118, 101, 108, 32, 110, 101, 101, 100, 115, 32, 97, 116, 32, 108, 101, 97, 115, 116, 32, 50, 32, 98, 117, 99, 107, 101, 116, 115]⟩ 1).run Ybaf.prog w = .ok [(0, 100, false)] w := by kernel_rfl
def Ybaf.shape3 : List UInt8 := [5, 3, 0, 0, 0, 0, 0, 0, 0, 105, 110, 116]
theorem Ybaf.op3_100 (name : String) (x : Int) (w : World) : (FmtStop.operand name false 100 false (.iface 3 (.int .i64 x))).run Ybaf.prog w = .ok (Ybaf.shape3, Go.Extern.Stop.digits 8 (x % 2 ^ 64).toNat) w := by kernel_rfl
theorem Ybaf.op3_100w (name : String) (x : Int) (w : World) : (FmtStop.operand name true 100 false (.iface 3 (.int .i64 x))).run Ybaf.prog w = .ok (Ybaf.shape3, Go.Extern.Stop.digits 8 (x % 2 ^ 64).toNat) w := by kernel_rfl
theorem Ybaf.ptr37 (w : World) : (FmtStop.ptrTo "errors.errorString").run Ybaf.prog w = .ok 37 w := by kernel_rfl
theorem Ybaf.elem37 (w : World) : (elemOf 37).run Ybaf.prog w = .ok 39 w := by kernel_rfl
theorem Ybaf.isError37 (w : World) : (FmtDoors.textMethod 37 "Error").run Ybaf.prog w = .ok true w := by kernel_rfl
attribute [local go_sem] Ybaf.call8 Ybaf.guard Ybaf.fmt0 Ybaf.fmt0r Ybaf.op3_100 Ybaf.op3_100w Ybaf.ptr37 Ybaf.elem37 Ybaf.isError37

set_option maxHeartbeats 400000 in
theorem opt_low (F : Interp) (n : Int) (b c : Nat) (w : World) (hF : F.answers w.tape) (hn : n < 2) (hc : w.cell? ⟨b, 0, none⟩ = some (.int .i64 n)) :
    Calls Ybaf.prog 6 #[.pointer (some ⟨c, 0, none⟩), .pointer (some ⟨b, 0, none⟩)] w fun e w' => (∃ p, e = .returned (.iface 37 (.pointer p))) ∧ Below w.heap.size w w' := by
  have hF' := hF
  unfold Interp.answers at hF'
  go_enter Ybaf.func6, Ybaf.ntmps6
  go_wp2
  go_ret
  exact ⟨⟨_, rfl⟩, (((Below.refl _ _).alloc (Nat.le_refl _) _).alloc (by simp) _).drew⟩
set_option maxHeartbeats 400000 in
theorem opt_ok (n sz : Int) (b c : Nat) (w : World) (hn : ¬ n < 2) (hc : w.cell? ⟨b, 0, none⟩ = some (.int .i64 n))
    (hd : w.cell? ⟨c, 1, none⟩ = some (.int .i64 sz)) (hf : w.frozen? ⟨c, 1, none⟩ = false) :
    Calls Ybaf.prog 6 #[.pointer (some ⟨c, 0, none⟩), .pointer (some ⟨b, 0, none⟩)] w fun e w' => e = .returned .nilIface ∧ w' = w.setCell ⟨c, 1, none⟩ (.int .i64 n) := by
  go_enter Ybaf.func6, Ybaf.ntmps6
  go_wp2
  go_ret
  exact ⟨rfl, rfl⟩

set_option maxHeartbeats 400000 in
theorem with_any (n : Int) (w : World) :
    Calls Ybaf.prog 5 #[.int .i64 n] w fun e w' => e = .returned (.func (.func 6) #[] #[.pointer (some ⟨w.heap.size, 0, none⟩)]) ∧ w' = w.alloc (.cells #[.int .i64 n] 3) := by
  go_enter Ybaf.func5, Ybaf.ntmps5
  go_wp2
  go_ret
  exact ⟨rfl, rfl⟩
theorem eqlFunc (p : Option Addr) (w : World) : (binOp .eql 26 (.func (.func 6) #[] #[.pointer p]) .nilFunc).run Ybaf.prog w = .ok (.bool false) w := by kernel_rfl
theorem neqIface (p : Option Addr) (w : World) : (binOp .neq 29 (.iface 37 (.pointer p)) .nilIface).run Ybaf.prog w = .ok (.bool true) w := by kernel_rfl
theorem eqlIface (w : World) : (binOp .eql 29 .nilIface .nilIface).run Ybaf.prog w = .ok (.bool true) w := by kernel_rfl
attribute [local go_sem] eqlFunc neqIface eqlIface
set_option maxHeartbeats 400000 in
theorem law_low (F : Interp) (n t s k : Int) (w : World) (hF : F.answers w.tape) (hn : n < 2) :
    Calls Ybaf.prog 3 #[.int .i64 n, .int .i64 t, .int .i64 s, .int .i64 k] w fun e w' => e = .returned (.bool true) ∧ Below w.heap.size w w' := by
  go_enter Ybaf.func3, Ybaf.ntmps3
  go_wp2_with (go_at_call 5; refine (with_any n _).mono ?_; rintro e w' ⟨rfl, rfl⟩)
  refine (opt_low F n (w.heap.size + 1) w.heap.size _ (by exact hF) hn ?hc).mono ?_
  case hc => simp
  rintro e w1 ⟨⟨p, rfl⟩, hb⟩
  have hc0 : w1.cell? ⟨w.heap.size, 0, none⟩ = some (.int .i64 t) := (hb.cell (by simp; omega)).trans (by simp)
  have hc1 : w1.cell? ⟨w.heap.size, 1, none⟩ = some (.int .i64 s) := (hb.cell (by simp; omega)).trans (by simp)
  have hc2 : w1.cell? ⟨w.heap.size, 2, none⟩ = some (.int .i64 k) := (hb.cell (by simp; omega)).trans (by simp)
  have hB : Below w.heap.size w w1 := ((((Below.refl _ _).alloc (Nat.le_refl _) _).alloc (by simp) _).trans (hb.mono (by simp; omega)))
  clear hb
  go_wp2
  go_ret
  exact ⟨rfl, hB⟩
set_option maxHeartbeats 400000 in
theorem law_ok (n t s k : Int) (w : World) (hn : ¬ n < 2) :
    Calls Ybaf.prog 3 #[.int .i64 n, .int .i64 t, .int .i64 s, .int .i64 k] w fun e w' => e = .returned (.bool true) ∧ Below w.heap.size w w' := by
  go_enter Ybaf.func3, Ybaf.ntmps3
  go_wp2_with (go_at_call 5; refine (with_any n _).mono ?_; rintro e w' ⟨rfl, rfl⟩)
  refine (opt_ok n s (w.heap.size + 1) w.heap.size _ (by omega) ?h1 ?h2 ?h3).mono ?_
  case h1 => simp
  case h2 => simp
  case h3 => simp
  rintro e w1 ⟨rfl, hw⟩
  have hc0 : w1.cell? ⟨w.heap.size, 0, none⟩ = some (.int .i64 t) := by rw [hw]; simp [go_sem]
  have hc1 : w1.cell? ⟨w.heap.size, 1, none⟩ = some (.int .i64 n) := by rw [hw]; simp [go_sem]
  have hc2 : w1.cell? ⟨w.heap.size, 2, none⟩ = some (.int .i64 k) := by rw [hw]; simp [go_sem]
  have hB : Below w.heap.size w w1 := by rw [hw]; exact (((Below.refl _ _).alloc (Nat.le_refl _) _).alloc (by simp) _).setCell (by simp) _
  clear hw
  go_wp2
  go_ret
  exact ⟨rfl, hB⟩
end Go.Proofs.YbulkbahaFmt
