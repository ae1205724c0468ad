import Derived.Test.YbulkbaliFmtProg
import Derived.WalkKit
import Derived.WalkSpells
import Derived.WalkLawsBesides
import Derived.Deep.QuietTactic
import Derived.BigQuiet
namespace Go.Proofs.YbulkbaliFmt
open Go.RowKit

/-- The slice at a holds the bytes bs (where there is one, the address is plain). -/
def Holds8 (w : World) (a : Option Addr) (bs : List UInt8) : Prop :=
  ∀ j (h : j < bs.length), ∃ b off, a = some ⟨b, off, none⟩ ∧ w.cell? ⟨b, off + j, none⟩ = some (.int .u8 bs[j].toNat)

theorem Holds8.at {w : World} {a : Option Addr} {bs : List UInt8} (h : Holds8 w a bs) (hp : 0 < bs.length) :
    ∃ b off, a = some ⟨b, off, none⟩ ∧ ∀ j (hj : j < bs.length), w.cell? ⟨b, off + j, none⟩ = some (.int .u8 bs[j].toNat) := by
  obtain ⟨b, off, e, _⟩ := h 0 hp
  refine ⟨b, off, e, fun j hj => ?_⟩
  obtain ⟨b', off', e', hc⟩ := h j hj
  rw [e] at e'
  simp at e'
  obtain ⟨rfl, rfl⟩ := e'
  exact hc

set_option maxHeartbeats 400000 in
theorem eq_zero (a b : Option Addr) (ca cb : Nat) (w : World) :
    Calls Ybaf.prog 7 #[.slice a 0 ca, .slice b 0 cb] w fun e w' => e = .returned (.bool true) ∧ ∃ q, w' = w.drewN q := by
  go_enter Ybaf.func7, Ybaf.ntmps7
  go_wp2
  refine wp_loop_rounds 1 ?_
  rw [rounds_succ]
  go_wp2
  go_ret
  exact ⟨rfl, 0, rfl⟩

set_option maxHeartbeats 400000 in
theorem eq_pos (b1 o1 b2 o2 n ca cb : Nat) (bs : List UInt8) (w : World) (hn : bs.length = n) (hm : n ≤ 1000000)
    (h1 : ∀ j (hj : j < bs.length), w.cell? ⟨b1, o1 + j, none⟩ = some (.int .u8 bs[j].toNat))
    (h2 : ∀ j (hj : j < bs.length), w.cell? ⟨b2, o2 + j, none⟩ = some (.int .u8 bs[j].toNat)) :
    Calls Ybaf.prog 7 #[.slice (some ⟨b1, o1, none⟩) n ca, .slice (some ⟨b2, o2, none⟩) n cb] w fun e w' => e = .returned (.bool true) ∧ ∃ q, w' = w.drewN q := by
  go_enter Ybaf.func7, Ybaf.ntmps7
  go_wp2
  go_loopw [5] (fun i wr => ∃ k : Nat, k ≤ n ∧ i = .int .i64 k ∧ ∃ q, wr = w.drewN q) (fun i _ => n - (intOf i).toNat)
  case atStart => exact ⟨0, Nat.zero_le _, rfl, 0, rfl⟩
  case round =>
    obtain ⟨k, hk, rfl, q, rfl⟩ := hrel
    by_cases hlt : k < n
    · have c1 := h1 k (by omega)
      have c2 := h2 k (by omega)
      have hlt' : (k : Int) < (n : Int) := by omega
      clear h1 h2
      go_wp2
      go_quiet (fail)
      go_wp2
      go_roundw
      case rel => exact ⟨k + 1, by omega, by go_num, q + nq, by simp [World.drewN]⟩
      case measure => simp [intOf]; omega
    · clear h1 h2
      go_wp2
      go_ret
      exact ⟨rfl, q, rfl⟩
end Go.Proofs.YbulkbaliFmt
