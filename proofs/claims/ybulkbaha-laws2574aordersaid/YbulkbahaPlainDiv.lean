namespace Go.Proofs.Ybulkbaha.Plain

/-- The multiplier: with hi = 2^l - d. -/
theorem mul_bounds (d l : Nat) (hd : 1 ≤ d) (hl : d ≤ 2 ^ l) :
    2 ^ (64 + l) < (2 ^ 64 * (2 ^ l - d) / d + 1 + 2 ^ 64) * d ∧
    (2 ^ 64 * (2 ^ l - d) / d + 1 + 2 ^ 64) * d ≤ 2 ^ (64 + l) + d := by
  have h1 := Nat.div_add_mod (2 ^ 64 * (2 ^ l - d)) d
  have h2 := Nat.mod_lt (2 ^ 64 * (2 ^ l - d)) (show d > 0 by omega)
  have h3 : 2 ^ 64 * (2 ^ l - d) = 2 ^ (64 + l) - 2 ^ 64 * d := by
    rw [Nat.mul_sub, Nat.pow_add]
  have h4 : 2 ^ 64 * d ≤ 2 ^ (64 + l) := by rw [Nat.pow_add]; exact Nat.mul_le_mul_left _ hl
  have h5 : (2 ^ 64 * (2 ^ l - d) / d + 1 + 2 ^ 64) * d = d * (2 ^ 64 * (2 ^ l - d) / d) + d + 2 ^ 64 * d := by
    rw [Nat.add_mul, Nat.add_mul, Nat.mul_comm d, Nat.one_mul]
  rw [h5]
  generalize d * (2 ^ 64 * (2 ^ l - d) / d) = A at *
  generalize 2 ^ 64 * (2 ^ l - d) % d = R at *
  generalize 2 ^ (64 + l) = B at *
  generalize 2 ^ 64 * d = C at *
  omega

/-- M n / P = n / d where P < M d and M d n < P (n + 1). -/
theorem div_of_bounds (d P M n : Nat) (hd : 1 ≤ d) (hP : 0 < P) (h1 : P < M * d) (h2 : M * d * n < P * (n + 1)) : M * n / P = n / d := by
  have e := Nat.div_add_mod n d
  have hr := Nat.mod_lt n (show d > 0 by omega)
  generalize n / d = q at *
  generalize n % d = r at *
  have lo : P * q ≤ M * n := by
    have a : P * q * d ≤ M * n * d := by
      calc P * q * d = P * (d * q) := by rw [Nat.mul_assoc, Nat.mul_comm q d]
        _ ≤ P * n := Nat.mul_le_mul_left _ (by omega)
        _ ≤ M * d * n := Nat.mul_le_mul_right _ (by omega)
        _ = M * n * d := by rw [Nat.mul_assoc, Nat.mul_assoc, Nat.mul_comm d n]
    exact Nat.le_of_mul_le_mul_right a (by omega)
  have hi : M * n < P * (q + 1) := by
    have a : M * n * d < P * (q + 1) * d := by
      calc M * n * d = M * d * n := by rw [Nat.mul_assoc, Nat.mul_assoc, Nat.mul_comm d n]
        _ < P * (n + 1) := h2
        _ ≤ P * ((q + 1) * d) := Nat.mul_le_mul_left _ (by rw [Nat.add_mul, Nat.mul_comm q d]; omega)
        _ = P * (q + 1) * d := by rw [Nat.mul_assoc]
    exact Nat.lt_of_mul_lt_mul_right a
  have b1 : q ≤ M * n / P := (Nat.le_div_iff_mul_le hP).2 (by rw [Nat.mul_comm]; exact lo)
  have b2 : M * n / P < q + 1 := (Nat.div_lt_iff_lt_mul hP).2 (by rw [Nat.mul_comm (q + 1) P]; exact hi)
  omega

/-- Granlund and Montgomery: (t + n) / 2^l = n / d, t the high word of m n. -/
theorem gm (d l n : Nat) (hd : 1 ≤ d) (hl : d ≤ 2 ^ l) (hn : n < 2 ^ 64) :
    ((2 ^ 64 * (2 ^ l - d) / d + 1) * n / 2 ^ 64 + n) / 2 ^ l = n / d := by
  have ⟨a, b⟩ := mul_bounds d l hd hl
  have c := div_of_bounds d (2 ^ (64 + l)) (2 ^ 64 * (2 ^ l - d) / d + 1 + 2 ^ 64) n hd (Nat.pow_pos (by omega)) a (by
    calc _ ≤ (2 ^ (64 + l) + d) * n := Nat.mul_le_mul_right _ b
      _ = 2 ^ (64 + l) * n + d * n := by rw [Nat.add_mul]
      _ < 2 ^ (64 + l) * n + 2 ^ (64 + l) := by
        refine Nat.add_lt_add_left ?_ _
        calc d * n ≤ 2 ^ l * n := Nat.mul_le_mul_right _ hl
          _ < 2 ^ l * 2 ^ 64 := Nat.mul_lt_mul_of_pos_left hn (Nat.pow_pos (by omega))
          _ = 2 ^ (64 + l) := by rw [Nat.pow_add, Nat.mul_comm]
      _ = _ := by rw [Nat.mul_add, Nat.mul_one])
  rw [← c, Nat.pow_add, ← Nat.div_div_eq_div_mul]
  congr 1
  generalize 2 ^ 64 * (2 ^ l - d) / d + 1 = m
  rw [Nat.add_mul, Nat.add_mul_div_left _ _ (Nat.pow_pos (by omega))]

end Go.Proofs.Ybulkbaha.Plain
