import Derived.Test.YbulkbahaLawA
namespace Go.Proofs.Ybulkbaha
open Go.RowKit
open Go.Proofs.Ybulkbaha.Plain

theorem ceil_le (n d : Nat) (h1 : 1 ≤ d) : n ≤ ceilN n d * d := by
  unfold ceilN
  have e := Nat.div_add_mod n d
  have hr := Nat.mod_lt n (show d > 0 by omega)
  rw [Nat.mul_comm] at e
  rw [Nat.add_mul]
  generalize n / d * d = p at *
  split <;> simp <;> omega
theorem ceil_pred (n d : Nat) (h : 1 ≤ ceilN n d) (h1 : 1 ≤ d) : (ceilN n d - 1) * d < n := by
  have e := Nat.div_mul_le_self n d
  unfold ceilN at *
  by_cases hp : n / d * d < n
  · simp [hp]
  · rw [if_neg hp, Nat.add_zero] at *
    generalize n / d = q at *
    obtain ⟨k, rfl⟩ : ∃ k, q = k + 1 := ⟨q - 1, by omega⟩
    rw [Nat.add_mul] at e hp
    simp
    omega
theorem ceil_mono (a b d : Nat) (h : a ≤ b) (h1 : 1 ≤ d) : ceilN a d ≤ ceilN b d := by
  by_cases h0 : ceilN a d = 0
  · omega
  · have p := ceil_pred a d (by omega) h1
    have q := ceil_le b d h1
    have : (ceilN a d - 1) * d < ceilN b d * d := by omega
    have := Nat.lt_of_mul_lt_mul_right this
    omega
theorem ceil_mul (q d : Nat) (h1 : 1 ≤ d) : ceilN (q * d) d = q := by
  unfold ceilN
  rw [Nat.mul_div_cancel _ (by omega)]
  simp
theorem ceil_self (n d : Nat) (h1 : 1 ≤ d) : ceilN n d ≤ n := by
  by_cases h0 : ceilN n d = 0
  · omega
  · have p := ceil_pred n d (by omega) h1
    have : ceilN n d - 1 ≤ (ceilN n d - 1) * d := Nat.le_mul_of_pos_right _ (by omega)
    omega
theorem maxq (d : Nat) : ∃ mx : Nat, mx = 18446744073709551615 / d ∧ IntKind.u64.wrap ((18446744073709551615 : Int).tdiv d) = mx ∧ IntKind.u64.wrap ((18446744073709551615 : Int) / d) = mx ∧ (18446744073709551615 : Int) / d = mx ∧ IntKind.u64.wrap (mx : Int) = mx := by
  have h := udiv 18446744073709551615 d (by omega)
  exact ⟨_, rfl, h.1, h.2.1, h.2.2.1, h.2.2.2⟩

/-- What the law's three tests on kl say. -/
theorem kl_facts (n d kl mx : Nat) (hn : n < 18446744073709551616) (h1 : 1 ≤ d) (ek : kl = ceilN n d) (em : mx = 18446744073709551615 / d) :
    (1 ≤ kl → kl - 1 ≤ mx ∧ ∃ z : Nat, IntKind.u64.wrap (((kl : Int) - 1) * d) = z ∧ z < n) ∧
    (kl ≤ mx → ∃ y : Nat, IntKind.u64.wrap ((kl : Int) * d) = y ∧ n ≤ y) := by
  refine ⟨fun h => ?_, fun h => ?_⟩
  · have p := ceil_pred n d (by omega) h1
    rw [← ek] at p
    refine ⟨?_, (kl - 1) * d, ?_, p⟩
    · rw [em]; exact (Nat.le_div_iff_mul_le (by omega)).2 (by omega)
    · refine wrapZ _ _ (by omega) ?_
      rw [show (kl : Int) - 1 = ((kl - 1 : Nat) : Int) by omega]
      simp
  · have p := ceil_le n d h1
    rw [← ek] at p
    rw [em] at h
    have q := (Nat.le_div_iff_mul_le (by omega)).1 h
    exact ⟨kl * d, wrapZ _ _ (by omega) (by simp), p⟩

/-- The divisor's block reads as it did. -/
theorem four {W w' : World} {g : Nat} {c0 c1 c2 c3 : Value} (hr : W.heap[g]? = some (.cells #[c0, c1, c2, c3] 25 (0, 0))) (hb : Below W.heap.size W w') :
    w'.heap[g]? = some (.cells #[c0, c1, c2, c3] 25 (0, 0)) ∧ w'.cell? ⟨g, 0, none⟩ = some c0 ∧ w'.cell? ⟨g, 1, none⟩ = some c1 ∧ w'.cell? ⟨g, 2, none⟩ = some c2 ∧ w'.cell? ⟨g, 3, none⟩ = some c3 := by
  have h := (hb.block g (lt_of_block hr)).trans hr
  exact ⟨h, by simp [World.cell?, h], by simp [World.cell?, h], by simp [World.cell?, h], by simp [World.cell?, h]⟩

set_option maxHeartbeats 800000 in
theorem order_keep (a b raw : Nat) (w : World) (ha : a < 18446744073709551616) (hb : b < 18446744073709551616) (hr : raw < 18446744073709551616) (hab : a ≤ b) :
    Calls Yba.prog 4 #[.int .u64 a, .int .u64 b, .int .u64 raw] w fun e w' => e = .returned (.bool true) ∧ Below w.heap.size w w' := by
  have HT : Hid (∀ w, Calls Yba.prog 7 #[.int .u64 raw] w fun e w' => e = .returned (.int .u64 (tickN raw)) ∧ w' = w) := tick_any raw
  have h1 := tickN_pos raw
  have h2 := tickN_lt raw hr
  generalize tickN raw = d at *
  obtain ⟨M, s1, s2, hN, hB⟩ := divisor_facts d h1 h2
  have HN : Hid (∀ w, Calls Yba.prog 8 #[.int .u64 d] w fun e w' => e = .returned (.agg #[.int .u64 d, .int .u64 M, .int .u8 s1, .int .u8 s2]) ∧ Below w.heap.size w w') := hN
  have hqd := Nat.div_mul_le_self a d
  have HL0 := fun w => hB a w ha
  have HH0 := fun w => hB b w hb
  have HX0 := fun w => hB (a / d * d) w (by omega)
  have hmono := ceil_mono a b d (by omega) h1
  have hself := ceil_self a d h1
  rw [ceil_mul _ _ h1] at HX0
  obtain ⟨mx, hmx, m1, m2, m3, m4⟩ := maxq d
  obtain ⟨q1, q2, q3, q4⟩ := udiv a d ha
  have x1 : IntKind.u64.wrap (((a / d : Nat) : Int) * d) = ((a / d * d : Nat) : Int) := wrapZ _ _ (by omega) (by simp)
  obtain ⟨kf1, kf2⟩ := kl_facts a d _ mx ha h1 rfl hmx
  clear hmx
  generalize a / d * d = x at *
  generalize a / d = q at *
  generalize ceilN a d = kl at *
  generalize ceilN b d = kh at *
  have HL : Hid (∀ w, Calls Yba.prog 9 #[.int .u64 a, .agg #[.int .u64 d, .int .u64 M, .int .u8 s1, .int .u8 s2]] w fun e w' => e = .returned (.int .u64 kl) ∧ Below w.heap.size w w') := HL0
  have HH : Hid (∀ w, Calls Yba.prog 9 #[.int .u64 b, .agg #[.int .u64 d, .int .u64 M, .int .u8 s1, .int .u8 s2]] w fun e w' => e = .returned (.int .u64 kh) ∧ Below w.heap.size w w') := HH0
  have HX : Hid (∀ w, Calls Yba.prog 9 #[.int .u64 x, .agg #[.int .u64 d, .int .u64 M, .int .u8 s1, .int .u8 s2]] w fun e w' => e = .returned (.int .u64 q) ∧ Below w.heap.size w w') := HX0
  have HK1 : Hid (1 ≤ kl → kl - 1 ≤ mx ∧ ∃ z : Nat, IntKind.u64.wrap (((kl : Int) - 1) * d) = z ∧ z < a) := kf1
  have HK2 : Hid (kl ≤ mx → ∃ y : Nat, IntKind.u64.wrap ((kl : Int) * d) = y ∧ a ≤ y) := kf2
  have d0 : ((d : Int) == 0) = false := by simp; omega
  have qq : ((q : Int) != q) = false := by simp
  have hkl : (kl : Int) ≤ 18446744073709551615 := by omega
  clear hN hB HL0 HH0 HX0 kf1 kf2 hself
  go_enter Yba.func4, Yba.ntmps4
  go_wp2_with (first
    | (go_at_call 7; refine (HT.out _).mono ?_; rintro e w' ⟨rfl, hw⟩; rw [hw])
    | (go_at_call 8; refine (HN.out _).mono ?_; rintro e w1 ⟨rfl, hb1⟩))
  refine (HL.out _).mono ?_
  rintro e w2 ⟨rfl, hb2⟩
  obtain ⟨g2, c20, c21, c22, c23⟩ := four (heap_alloc_new w1 _) hb2
  have B2 : Below w.heap.size w w2 := (hb1.alloc hb1.size _).trans (hb2.mono (by have := hb1.size; simp; omega))
  have HG2 : Hid (w2.heap[w1.heap.size]? = some (.cells #[.int .u64 d, .int .u64 M, .int .u8 s1, .int .u8 s2] 25 (0, 0))) := g2
  clear hb2 hb1 g2
  go_wp2_with fail
  refine (HH.out _).mono ?_
  rintro e w3 ⟨rfl, hb3⟩
  obtain ⟨g3, c30, c31, c32, c33⟩ := four HG2.out hb3
  have B3 : Below w.heap.size w w3 := B2.trans (hb3.mono B2.size)
  have HG3 : Hid (w3.heap[w1.heap.size]? = some (.cells #[.int .u64 d, .int .u64 M, .int .u8 s1, .int .u8 s2] 25 (0, 0))) := g3
  clear hb3 B2 g3 HG2 c20 c21 c22 c23
  go_wp2_with fail
  refine (HX.out _).mono ?_
  rintro e w4 ⟨rfl, hb4⟩
  have B4 : Below w.heap.size w w4 := B3.trans (hb4.mono B3.size)
  clear hb4 B3 HG3 c30 c31 c32 c33
  by_cases k0 : kl = 0
  · obtain ⟨y, y1, y2⟩ := HK2.out (by omega)
    have u1 : decide (0 < kl) = false := by simp; omega
    have u1' : kl ≤ 0 := by omega
    have u2 : kl ≤ mx := by omega
    have u3 : ¬ y < a := by omega
    clear k0
    go_wp2
    go_ret
    exact ⟨rfl, B4⟩
  · obtain ⟨z0, z, z1, z2⟩ := HK1.out (by omega)
    have v0 : (1 : Int) ≤ kl := by omega
    have v1 : 0 < kl := by omega
    have v2 : decide ((mx : Int) < (kl : Int) - 1) = false := by simp; omega
    have v3 : ¬ a ≤ z := by omega
    by_cases km : kl ≤ mx
    · obtain ⟨y, y1, y2⟩ := HK2.out km
      have u2 : kl ≤ mx := by omega
      have u3 : ¬ y < a := by omega
      clear k0 km z0
      go_wp2
      go_ret
      exact ⟨rfl, B4⟩
    · have u2 : ¬ kl ≤ mx := km
      clear k0 km z0
      go_wp2
      go_ret
      exact ⟨rfl, B4⟩

set_option maxHeartbeats 800000 in
theorem order_swap (a b raw : Nat) (w : World) (ha : a < 18446744073709551616) (hb : b < 18446744073709551616) (hr : raw < 18446744073709551616) (hab : b < a) :
    Calls Yba.prog 4 #[.int .u64 a, .int .u64 b, .int .u64 raw] w fun e w' => e = .returned (.bool true) ∧ Below w.heap.size w w' := by
  have HT : Hid (∀ w, Calls Yba.prog 7 #[.int .u64 raw] w fun e w' => e = .returned (.int .u64 (tickN raw)) ∧ w' = w) := tick_any raw
  have h1 := tickN_pos raw
  have h2 := tickN_lt raw hr
  generalize tickN raw = d at *
  obtain ⟨M, s1, s2, hN, hB⟩ := divisor_facts d h1 h2
  have HN : Hid (∀ w, Calls Yba.prog 8 #[.int .u64 d] w fun e w' => e = .returned (.agg #[.int .u64 d, .int .u64 M, .int .u8 s1, .int .u8 s2]) ∧ Below w.heap.size w w') := hN
  have hqd := Nat.div_mul_le_self b d
  have HL0 := fun w => hB b w hb
  have HH0 := fun w => hB a w ha
  have HX0 := fun w => hB (b / d * d) w (by omega)
  have hmono := ceil_mono b a d (by omega) h1
  have hself := ceil_self b d h1
  rw [ceil_mul _ _ h1] at HX0
  obtain ⟨mx, hmx, m1, m2, m3, m4⟩ := maxq d
  obtain ⟨q1, q2, q3, q4⟩ := udiv b d hb
  have x1 : IntKind.u64.wrap (((b / d : Nat) : Int) * d) = ((b / d * d : Nat) : Int) := wrapZ _ _ (by omega) (by simp)
  obtain ⟨kf1, kf2⟩ := kl_facts b d _ mx hb h1 rfl hmx
  clear hmx
  generalize b / d * d = x at *
  generalize b / d = q at *
  generalize ceilN b d = kl at *
  generalize ceilN a d = kh at *
  have HL : Hid (∀ w, Calls Yba.prog 9 #[.int .u64 b, .agg #[.int .u64 d, .int .u64 M, .int .u8 s1, .int .u8 s2]] w fun e w' => e = .returned (.int .u64 kl) ∧ Below w.heap.size w w') := HL0
  have HH : Hid (∀ w, Calls Yba.prog 9 #[.int .u64 a, .agg #[.int .u64 d, .int .u64 M, .int .u8 s1, .int .u8 s2]] w fun e w' => e = .returned (.int .u64 kh) ∧ Below w.heap.size w w') := HH0
  have HX : Hid (∀ w, Calls Yba.prog 9 #[.int .u64 x, .agg #[.int .u64 d, .int .u64 M, .int .u8 s1, .int .u8 s2]] w fun e w' => e = .returned (.int .u64 q) ∧ Below w.heap.size w w') := HX0
  have HK1 : Hid (1 ≤ kl → kl - 1 ≤ mx ∧ ∃ z : Nat, IntKind.u64.wrap (((kl : Int) - 1) * d) = z ∧ z < b) := kf1
  have HK2 : Hid (kl ≤ mx → ∃ y : Nat, IntKind.u64.wrap ((kl : Int) * d) = y ∧ b ≤ y) := kf2
  have d0 : ((d : Int) == 0) = false := by simp; omega
  have qq : ((q : Int) != q) = false := by simp
  have hkl : (kl : Int) ≤ 18446744073709551615 := by omega
  clear hN hB HL0 HH0 HX0 kf1 kf2 hself
  go_enter Yba.func4, Yba.ntmps4
  go_wp2_with (first
    | (go_at_call 7; refine (HT.out _).mono ?_; rintro e w' ⟨rfl, hw⟩; rw [hw])
    | (go_at_call 8; refine (HN.out _).mono ?_; rintro e w1 ⟨rfl, hb1⟩))
  refine (HL.out _).mono ?_
  rintro e w2 ⟨rfl, hb2⟩
  obtain ⟨g2, c20, c21, c22, c23⟩ := four (heap_alloc_new w1 _) hb2
  have B2 : Below w.heap.size w w2 := (hb1.alloc hb1.size _).trans (hb2.mono (by have := hb1.size; simp; omega))
  have HG2 : Hid (w2.heap[w1.heap.size]? = some (.cells #[.int .u64 d, .int .u64 M, .int .u8 s1, .int .u8 s2] 25 (0, 0))) := g2
  clear hb2 hb1 g2
  go_wp2_with fail
  refine (HH.out _).mono ?_
  rintro e w3 ⟨rfl, hb3⟩
  obtain ⟨g3, c30, c31, c32, c33⟩ := four HG2.out hb3
  have B3 : Below w.heap.size w w3 := B2.trans (hb3.mono B2.size)
  have HG3 : Hid (w3.heap[w1.heap.size]? = some (.cells #[.int .u64 d, .int .u64 M, .int .u8 s1, .int .u8 s2] 25 (0, 0))) := g3
  clear hb3 B2 g3 HG2 c20 c21 c22 c23
  go_wp2_with fail
  refine (HX.out _).mono ?_
  rintro e w4 ⟨rfl, hb4⟩
  have B4 : Below w.heap.size w w4 := B3.trans (hb4.mono B3.size)
  clear hb4 B3 HG3 c30 c31 c32 c33
  by_cases k0 : kl = 0
  · obtain ⟨y, y1, y2⟩ := HK2.out (by omega)
    have u1 : decide (0 < kl) = false := by simp; omega
    have u1' : kl ≤ 0 := by omega
    have u2 : kl ≤ mx := by omega
    have u3 : ¬ y < b := by omega
    clear k0
    go_wp2
    go_ret
    exact ⟨rfl, B4⟩
  · obtain ⟨z0, z, z1, z2⟩ := HK1.out (by omega)
    have v0 : (1 : Int) ≤ kl := by omega
    have v1 : 0 < kl := by omega
    have v2 : decide ((mx : Int) < (kl : Int) - 1) = false := by simp; omega
    have v3 : ¬ b ≤ z := by omega
    by_cases km : kl ≤ mx
    · obtain ⟨y, y1, y2⟩ := HK2.out km
      have u2 : kl ≤ mx := by omega
      have u3 : ¬ y < b := by omega
      clear k0 km z0
      go_wp2
      go_ret
      exact ⟨rfl, B4⟩
    · have u2 : ¬ kl ≤ mx := km
      clear k0 km z0
      go_wp2
      go_ret
      exact ⟨rfl, B4⟩

theorem order_any (a b raw : Nat) (w : World) (ha : a < 18446744073709551616) (hb : b < 18446744073709551616) (hr : raw < 18446744073709551616) :
    Calls Yba.prog 4 #[.int .u64 a, .int .u64 b, .int .u64 raw] w fun e w' => e = .returned (.bool true) ∧ Below w.heap.size w w' := by
  by_cases h : b < a
  · exact order_swap a b raw w ha hb hr h
  · exact order_keep a b raw w ha hb hr (by omega)
end Go.Proofs.Ybulkbaha
