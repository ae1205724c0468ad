import Derived.Test.YbulkbahaPlainKnuth
import Derived.WalkKit
import Derived.Shelf.Bits.Mul64
namespace Go.Proofs.Ybulkbaha
open Go.RowKit
open Go.Proofs.Ybulkbaha.Plain

theorem wrapN (n : Nat) (h : n < 18446744073709551616) : IntKind.u64.wrap (n : Int) = n := by rw [IntKind.wrap_u64]; omega
theorem wrapZ (z : Int) (n : Nat) (h : n < 18446744073709551616) (e : z = n) : IntKind.u64.wrap z = n := by rw [e]; exact wrapN n h
theorem shl_cast (y s : Nat) : (y : Int) * 2 ^ s = ((y * 2 ^ s : Nat) : Int) := by simp
theorem or_zero (u : Nat) (h : u < 18446744073709551616) : bits .or .u64 (u : Int) 0 = u := by
  have e := bits_or_u64_nat u 0 h (by omega)
  simpa using e
theorem and_zero : bits .and .u64 0 4294967295 = 0 := by
  have e := Go.Proofs.Mul64.maskN 0 (by omega)
  simpa using e

theorem digit_start (Y u y1 : Nat) (h1 : 9223372036854775808 ≤ Y) (h2 : Y < 18446744073709551616) (hu : u < Y) (e : y1 = Y / 4294967296) :
    ∃ q qy r : Nat, IntKind.u64.wrap ((u : Int).tdiv y1) = q ∧ IntKind.u64.wrap ((u : Int) / y1) = q ∧ (u : Int) / y1 = q ∧ IntKind.u64.wrap ((q : Int) * y1) = qy ∧ IntKind.u64.wrap ((u : Int) - qy) = r ∧ (u : Int) - qy = r ∧ r < 4294967296 ∧ Dig Y u q r := by
  have d := dig_init Y u h1 h2 hu
  rw [← e] at d
  have ed : (u : Int) / y1 = ((u / y1 : Nat) : Int) := by simp
  have hle : u / y1 * y1 ≤ u := Nat.div_mul_le_self _ _
  have hq : u / y1 ≤ u := Nat.div_le_self _ _
  have er : u - u / y1 * y1 = u % y1 := by rw [Nat.mod_eq_sub_mul_div, Nat.mul_comm]
  have hr : u % y1 < y1 := Nat.mod_lt _ (by omega)
  generalize hQ : u / y1 = Q at *
  have em : (Q : Int) * y1 = ((Q * y1 : Nat) : Int) := by simp
  generalize hP : Q * y1 = P at *
  refine ⟨Q, P, u - P, ?_, ?_, ed, ?_, ?_, by omega, by omega, d⟩
  · exact wrapZ _ _ (by omega) (by rw [Int.tdiv_eq_ediv_of_nonneg (by omega), ed])
  · exact wrapZ _ _ (by omega) ed
  · exact wrapZ _ _ (by omega) em
  · exact wrapZ _ _ (by omega) (by omega)

theorem part_rem (Y u v Q1 : Nat) (h2 : Y < 18446744073709551616) (hu : u < Y) (e : Q1 = u * 4294967296 / Y) (ev : v = u * 4294967296 % Y) :
    ∃ a b : Nat, IntKind.u64.wrap ((u : Int) * 4294967296) = a ∧ IntKind.u64.wrap ((Q1 : Int) * Y) = b ∧ IntKind.u64.wrap ((a : Int) - b) = v ∧ IntKind.u64.wrap (a : Int) = a ∧ v < Y := by
  have d := Nat.div_add_mod (u * 4294967296) Y
  have hv := Nat.mod_lt (u * 4294967296) (show Y > 0 by omega)
  rw [← e, ← ev] at d
  rw [← ev] at hv
  refine ⟨u * 4294967296 % 18446744073709551616, Q1 * Y % 18446744073709551616, ?_, ?_, ?_, wrapN _ (by omega), hv⟩
  · rw [IntKind.wrap_u64]; omega
  · have em : (Q1 : Int) * Y = ((Q1 * Y : Nat) : Int) := by simp
    rw [em, IntKind.wrap_u64]; omega
  · rw [IntKind.wrap_u64, Nat.mul_comm Q1 Y]
    generalize Y * Q1 = Z at *
    omega
end Go.Proofs.Ybulkbaha
