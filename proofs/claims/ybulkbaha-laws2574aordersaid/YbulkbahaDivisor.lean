import Derived.Test.YbulkbahaShelf
import Derived.Test.YbulkbahaDiv64
import Derived.Test.YbulkbahaPlainDiv
import Derived.Lib.ItoaNum
namespace Go.Proofs.Ybulkbaha
open Go.RowKit
open Go.Proofs.Ybulkbaha.Plain

theorem bitLen_bounds (x : Nat) (h : x < 18446744073709551616) (h0 : x ≠ 0) : 1 ≤ Lib.bitLen x ∧ 2 ^ (Lib.bitLen x - 1) ≤ x ∧ x < 2 ^ Lib.bitLen x ∧ Lib.bitLen x ≤ 64 := by
  have a := Lib.bitLenAux_bounds 64 x (by simpa using h) h0
  exact ⟨a.1, a.2.1, a.2.2, Lib.bitLen_le x 64 (by omega) (by simpa using h)⟩

theorem lz_norm (y : Nat) (h0 : y ≠ 0) (h : y < 18446744073709551616) : 9223372036854775808 ≤ y * 2 ^ (64 - Lib.bitLen y) ∧ y * 2 ^ (64 - Lib.bitLen y) < 18446744073709551616 ∧ 64 - Lib.bitLen y ≤ 63 := by
  obtain ⟨a, b, c, d⟩ := bitLen_bounds y h h0
  generalize Lib.bitLen y = l at *
  refine ⟨?_, ?_, by omega⟩
  · calc 9223372036854775808 = 2 ^ (l - 1) * 2 ^ (64 - l) := by rw [← Nat.pow_add, show l - 1 + (64 - l) = 63 by omega]
      _ ≤ y * 2 ^ (64 - l) := Nat.mul_le_mul_right _ b
  · calc y * 2 ^ (64 - l) < 2 ^ l * 2 ^ (64 - l) := Nat.mul_lt_mul_of_pos_right c (Nat.pow_pos (by omega))
      _ = 18446744073709551616 := by rw [← Nat.pow_add, show l + (64 - l) = 64 by omega]

theorem div64_all (hi y : Nat) (w : World) (h2 : hi < y) (h3 : y < 18446744073709551616) :
    Calls Yba.prog 16 #[.int .u64 hi, .int .u64 0, .int .u64 y] w fun e w' => (∃ r, e = .returned (.tuple #[.int .u64 ((hi * 18446744073709551616 / y : Nat) : Int), .int .u64 r])) ∧ ∃ n, w' = w.drewN n := by
  by_cases h0 : hi = 0
  · subst h0
    refine (div64_zero y w (by omega) (by omega)).mono ?_
    rintro e w' ⟨rfl, n, rfl⟩
    exact ⟨⟨0, by simp⟩, n, rfl⟩
  · obtain ⟨a, b, c⟩ := lz_norm y (by omega) h3
    refine (div64_any hi y (64 - Lib.bitLen y) w (by omega) h2 h3 c ?_ a b).mono ?_
    · intro w
      refine (Yba.bits_LeadingZeros64 (y : Int) w (by omega) (by omega)).mono ?_
      rintro e w' ⟨rfl, rfl⟩
      have := Lib.bitLen_le y 64 (by omega) (by omega)
      refine ⟨?_, rfl⟩
      rw [Int.toNat_natCast]
      go_num
    · rintro e w' ⟨h, rfl⟩
      exact ⟨h, 0, rfl⟩

theorem log_facts (d : Nat) (h1 : 1 ≤ d) (h2 : d < 18446744073709551616) :
    d ≤ 2 ^ Lib.bitLen (d - 1) ∧ 2 ^ Lib.bitLen (d - 1) - d < d ∧ Lib.bitLen (d - 1) ≤ 64 ∧ 2 ^ Lib.bitLen (d - 1) ≤ 18446744073709551616 := by
  by_cases h : d = 1
  · subst h; decide
  · obtain ⟨a, b, c, e⟩ := bitLen_bounds (d - 1) (by omega) (by omega)
    generalize Lib.bitLen (d - 1) = l at *
    obtain ⟨k, rfl⟩ : ∃ k, l = k + 1 := ⟨l - 1, by omega⟩
    rw [Nat.add_sub_cancel] at b
    have e2 : 2 ^ (k + 1) = 2 * 2 ^ k := by rw [Nat.pow_succ, Nat.mul_comm]
    have e3 : 2 ^ (k + 1) ≤ 2 ^ 64 := Nat.pow_le_pow_right (by omega) e
    exact ⟨by omega, by omega, e, by simpa using e3⟩

theorem quo_small (d hi : Nat) (h1 : hi < d) (h2 : d < 18446744073709551616) : hi * 18446744073709551616 / d < 18446744073709551615 := by
  refine (Nat.div_lt_iff_lt_mul (by omega)).2 ?_
  have : hi * 18446744073709551616 ≤ (d - 1) * 18446744073709551616 := Nat.mul_le_mul_right _ (by omega)
  omega

set_option maxHeartbeats 400000 in
theorem newDivisor_any (d l : Nat) (w : World) (h1 : 1 ≤ d) (h2 : d < 18446744073709551616) (hl : l = Lib.bitLen (d - 1)) :
    Calls Yba.prog 8 #[.int .u64 d] w fun e w' => e = .returned (.agg #[.int .u64 d, .int .u64 (((2 ^ l - d) * 18446744073709551616 / d + 1 : Nat) : Int), .int .u8 ((min l 1 : Nat) : Int), .int .u8 ((l - 1 : Nat) : Int)]) ∧ Below w.heap.size w w' := by
  have HL : Hid (∀ w, Calls Yba.prog 15 #[.int .u64 ((d : Int) - 1)] w fun e w' => e = .returned (.int .i64 l) ∧ w' = w) := fun w => by
    refine (Yba.bits_Len64 _ w (by omega) (by omega)).mono ?_
    rintro e w' ⟨rfl, rfl⟩
    refine ⟨?_, rfl⟩
    rw [show ((d : Int) - 1).toNat = d - 1 by omega, hl]
  obtain ⟨a1, a2, a3, a4⟩ := log_facts d h1 h2
  rw [← hl] at a1 a2 a3 a4
  clear hl
  have e0 : min l 64 = l := by omega
  have e1 : ((2 : Int) ^ l) = ((2 ^ l : Nat) : Int) := by simp
  obtain ⟨hi, hhi⟩ : ∃ hi, hi = 2 ^ l - d := ⟨_, rfl⟩
  have e2 : IntKind.u64.wrap (IntKind.u64.wrap (2 ^ l) - (d : Int)) = hi := by
    rw [e1]
    generalize 2 ^ l = T at *
    rw [IntKind.wrap_u64, IntKind.wrap_u64]; omega
  rw [← hhi] at a2 ⊢
  have hm := quo_small d hi a2 h2
  have HD := fun w => div64_all hi d w a2 h2
  generalize hi * 18446744073709551616 / d = m at *
  have HM : Hid (∀ w, Calls Yba.prog 16 #[.int .u64 hi, .int .u64 0, .int .u64 d] w fun e w' => (∃ r, e = .returned (.tuple #[.int .u64 (m : Int), .int .u64 r])) ∧ ∃ n, w' = w.drewN n) := HD
  have hm' : (m : Int) < 18446744073709551615 := by omega
  clear HD hhi a1 a4 e1 hm
  go_enter Yba.func8, Yba.ntmps8
  go_wp2_with (first | (go_at_call 15; refine (HL.out _).mono ?_; rintro e w' ⟨rfl, hw⟩; rw [hw]) | (go_at_call 16; refine (HM.out _).mono ?_; rintro e w' ⟨⟨r, rfl⟩, n, hw⟩; rw [hw]))
  refine bodyPost_ret (v := .agg #[.int .u64 d, .int .u64 ((m : Int) + 1), .int .u8 (min (l : Int) 1), .int .u8 (max ((l : Int) - 1) 0)]) (by simp [results, Yba.results8, go_sem]) rfl ⟨?_, ?_⟩
  · rw [show min (l : Int) 1 = ((min l 1 : Nat) : Int) by omega, show max ((l : Int) - 1) 0 = ((l - 1 : Nat) : Int) by omega]
    rfl
  · exact (((((below_drewN ((Below.refl _ _).alloc (Nat.le_refl _) _) _).setCell (Nat.le_refl _) _).setCell (Nat.le_refl _) _).setCell (Nat.le_refl _) _).setCell (Nat.le_refl _) _)
end Go.Proofs.Ybulkbaha
