namespace Go.Proofs.Ybulkbaha.Plain

/-- The quotient digit's invariant: Y the normalised divisor, u the running remainder (u < Y), the next digit of the dividend 0. -/
def Dig (Y u q r : Nat) : Prop := q * (Y / 4294967296) + r = u ∧ u * 4294967296 / Y ≤ q ∧ q ≤ 4294967297

theorem dig_key (Y u q r : Nat) (h : q * (Y / 4294967296) + r = u) : q * Y + 4294967296 * r = u * 4294967296 + q * (Y % 4294967296) := by
  have e := Nat.div_add_mod Y 4294967296
  generalize Y / 4294967296 = a at *
  generalize Y % 4294967296 = b at *
  subst h
  rw [← e, Nat.mul_add, Nat.add_mul, ← Nat.mul_assoc, Nat.mul_comm q 4294967296, Nat.mul_assoc, Nat.mul_comm 4294967296 (q * a), Nat.mul_comm 4294967296 r]
  omega

theorem dig_init (Y u : Nat) (h1 : 9223372036854775808 ≤ Y) (h2 : Y < 18446744073709551616) (hu : u < Y) :
    Dig Y u (u / (Y / 4294967296)) (u - u / (Y / 4294967296) * (Y / 4294967296)) := by
  have ha : 2147483648 ≤ Y / 4294967296 := by omega
  have e := Nat.div_add_mod Y 4294967296
  have hb : Y % 4294967296 < 4294967296 := Nat.mod_lt _ (by omega)
  have e2 := Nat.div_add_mod u (Y / 4294967296)
  have hr := Nat.mod_lt u (show Y / 4294967296 > 0 by omega)
  refine ⟨?_, ?_, ?_⟩
  · have : u / (Y / 4294967296) * (Y / 4294967296) ≤ u := Nat.div_mul_le_self _ _
    omega
  · refine Nat.le_of_lt_succ ((Nat.div_lt_iff_lt_mul (by omega)).2 ?_)
    calc u * 4294967296 < (u / (Y / 4294967296) + 1) * (Y / 4294967296) * 4294967296 := by
          refine Nat.mul_lt_mul_of_pos_right ?_ (by omega)
          rw [Nat.add_mul, Nat.one_mul, Nat.mul_comm]; omega
      _ = (u / (Y / 4294967296) + 1) * (4294967296 * (Y / 4294967296)) := by rw [Nat.mul_assoc, Nat.mul_comm (Y / 4294967296)]
      _ ≤ (u / (Y / 4294967296) + 1) * Y := Nat.mul_le_mul_left _ (by omega)
  · refine Nat.le_of_lt_succ ((Nat.div_lt_iff_lt_mul (by omega)).2 ?_)
    omega

theorem dig_done (Y u q r : Nat) (h1 : 9223372036854775808 ≤ Y) (hd : Dig Y u q r) (hle : q * (Y % 4294967296) ≤ 4294967296 * r) : q = u * 4294967296 / Y := by
  obtain ⟨a, b, c⟩ := hd
  have k := dig_key Y u q r a
  have : q ≤ u * 4294967296 / Y := (Nat.le_div_iff_mul_le (by omega)).2 (by omega)
  omega

theorem quo_lt (Y u : Nat) (hu : u < Y) : u * 4294967296 / Y < 4294967296 :=
  (Nat.div_lt_iff_lt_mul (by omega)).2 (by rw [Nat.mul_comm]; exact Nat.mul_lt_mul_of_pos_left hu (by omega))

theorem dig_next (Y u q r : Nat) (h1 : 9223372036854775808 ≤ Y) (hu : u < Y) (hd : Dig Y u q r) (ht : 4294967296 ≤ q ∨ 4294967296 * r < q * (Y % 4294967296)) :
    1 ≤ q ∧ Dig Y u (q - 1) (r + Y / 4294967296) := by
  obtain ⟨a, b, c⟩ := hd
  have k := dig_key Y u q r a
  have l := quo_lt Y u hu
  have hgt : u * 4294967296 / Y < q := by
    rcases ht with h | h
    · omega
    · exact (Nat.div_lt_iff_lt_mul (by omega)).2 (by omega)
  unfold Dig
  generalize u * 4294967296 / Y = Q at *
  refine ⟨by omega, ?_, by omega, by omega⟩
  obtain ⟨q', rfl⟩ : ∃ q', q = q' + 1 := ⟨q - 1, by omega⟩
  rw [Nat.add_mul] at a
  simp; omega

theorem dig_break (Y u q r : Nat) (h1 : 9223372036854775808 ≤ Y) (hd : Dig Y u q r) (hq : q ≤ 4294967296) (hr : 4294967296 ≤ r) : q = u * 4294967296 / Y := by
  refine dig_done Y u q r h1 hd ?_
  have hb : Y % 4294967296 < 4294967296 := Nat.mod_lt _ (by omega)
  calc q * (Y % 4294967296) ≤ 4294967296 * 4294967296 := Nat.mul_le_mul hq (by omega)
    _ ≤ 4294967296 * r := Nat.mul_le_mul_left _ hr

theorem two_digits (Y u : Nat) (hY : 0 < Y) : u * 18446744073709551616 / Y = u * 4294967296 / Y * 4294967296 + (u * 4294967296 % Y) * 4294967296 / Y := by
  have e := Nat.div_add_mod (u * 4294967296) Y
  have e2 : u * 18446744073709551616 = Y * (u * 4294967296 / Y * 4294967296) + u * 4294967296 % Y * 4294967296 := by
    calc u * 18446744073709551616 = (u * 4294967296) * 4294967296 := by rw [Nat.mul_assoc]
      _ = (Y * (u * 4294967296 / Y) + u * 4294967296 % Y) * 4294967296 := by rw [e]
      _ = _ := by rw [Nat.add_mul, Nat.mul_assoc]
  rw [e2, Nat.add_comm, Nat.add_mul_div_left _ _ hY, Nat.add_comm]

theorem unshift (hi y s : Nat) : hi * 2 ^ s * 18446744073709551616 / (y * 2 ^ s) = hi * 18446744073709551616 / y := by
  rw [Nat.mul_right_comm, Nat.mul_div_mul_right _ _ (Nat.pow_pos (by omega))]
end Go.Proofs.Ybulkbaha.Plain
