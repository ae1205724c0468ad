import Derived.Test.YbulkbahaBoundary
namespace Go.Proofs.Ybulkbaha
open Go.RowKit
open Go.Proofs.Ybulkbaha.Plain

/-- zzs2574atick. -/
def tickN (raw : Nat) : Nat := if raw = 0 then 1 else raw
theorem tickN_pos (raw : Nat) : 1 ≤ tickN raw := by unfold tickN; split <;> omega
theorem tickN_lt (raw : Nat) (h : raw < 18446744073709551616) : tickN raw < 18446744073709551616 := by unfold tickN; split <;> omega

theorem tick_any (raw : Nat) (w : World) :
    Calls Yba.prog 7 #[.int .u64 raw] w fun e w' => e = .returned (.int .u64 (tickN raw)) ∧ w' = w := by
  by_cases h : raw = 0
  · have ht : Hid (tickN raw = 1) := by show _ = _; simp [tickN, h]
    have hr : ((raw : Int) == 0) = true := by simp [h]
    go_enter Yba.func7, Yba.ntmps7
    go_wp2
    go_ret
    exact ⟨ret_u64 (by rw [ht.out]; rfl), rfl⟩
  · have ht : Hid (tickN raw = raw) := by show _ = _; simp [tickN, h]
    have hr : ((raw : Int) == 0) = false := by simp [h]
    go_enter Yba.func7, Yba.ntmps7
    go_wp2
    go_ret
    exact ⟨ret_u64 (by rw [ht.out]), rfl⟩

theorem udiv (n d : Nat) (hn : n < 18446744073709551616) : IntKind.u64.wrap ((n : Int).tdiv d) = ((n / d : Nat) : Int) ∧ IntKind.u64.wrap ((n : Int) / d) = ((n / d : Nat) : Int) ∧ (n : Int) / d = ((n / d : Nat) : Int) ∧ IntKind.u64.wrap ((n / d : Nat) : Int) = ((n / d : Nat) : Int) := by
  have e : (n : Int) / d = ((n / d : Nat) : Int) := by simp
  have hq : n / d ≤ n := Nat.div_le_self _ _
  have e2 : IntKind.u64.wrap ((n / d : Nat) : Int) = ((n / d : Nat) : Int) := wrapN _ (by omega)
  exact ⟨by rw [Int.tdiv_eq_ediv_of_nonneg (by omega), e, e2], by rw [e, e2], e, e2⟩
theorem umod (n d : Nat) (hn : n < 18446744073709551616) : IntKind.u64.wrap ((n : Int).tmod d) = ((n % d : Nat) : Int) ∧ IntKind.u64.wrap ((n : Int) % d) = ((n % d : Nat) : Int) ∧ (n : Int).tmod d = ((n % d : Nat) : Int) ∧ (n : Int) % d = ((n % d : Nat) : Int) ∧ IntKind.u64.wrap ((n % d : Nat) : Int) = ((n % d : Nat) : Int) := by
  have e : (n : Int) % d = ((n % d : Nat) : Int) := by simp
  have hq : n % d ≤ n := Nat.mod_le _ _
  have e2 : IntKind.u64.wrap ((n % d : Nat) : Int) = ((n % d : Nat) : Int) := wrapN _ (by omega)
  have e3 : (n : Int).tmod d = ((n % d : Nat) : Int) := by rw [Int.tmod_eq_emod_of_nonneg (by omega), e]
  exact ⟨by rw [e3, e2], by rw [e, e2], e3, e, e2⟩

set_option maxHeartbeats 400000 in
theorem ceil_any (n d : Nat) (w : World) (h1 : 1 ≤ d) (hn : n < 18446744073709551616) :
    Calls Yba.prog 10 #[.int .u64 n, .int .u64 d] w fun e w' => e = .returned (.int .u64 (ceilN n d)) ∧ w' = w := by
  obtain ⟨a1, a2, a3, a4⟩ := udiv n d hn
  obtain ⟨b1, b2, b3, b4, b5⟩ := umod n d hn
  have em := Nat.div_add_mod n d
  have hk : n / d ≤ n / d * d := Nat.le_mul_of_pos_right _ (by omega)
  rw [Nat.mul_comm] at em
  obtain ⟨c, hc⟩ : ∃ c, c = ceilN n d := ⟨_, rfl⟩
  rw [← hc]
  unfold ceilN at hc
  generalize n / d * d = p at *
  generalize n / d = q at *
  generalize n % d = r at *
  have HC : Hid (c = q + if p < n then 1 else 0) := hc
  have HP : Hid (p + r = n) := em
  have HK : Hid (q ≤ p) := hk
  have hd0 : ((d : Int) == 0) = false := by simp; omega
  by_cases hr : r = 0
  · have hr' : ((r : Int) == 0) = true := by simp [hr]
    have hr'' : ((r : Int) != 0) = false := by simp [hr]
    have HF : Hid (c = q) := by show c = q; rw [hc, if_neg (by omega)]; rfl
    clear hc em hk hr
    go_enter Yba.func10, Yba.ntmps10
    go_wp2
    go_ret
    exact ⟨ret_u64 (by rw [HF.out]), rfl⟩
  · have hr' : ((r : Int) == 0) = false := by simp [hr]
    have hr'' : ((r : Int) != 0) = true := by simp [hr]
    have HF : Hid (c = q + 1) := by show c = q + 1; rw [hc, if_pos (by omega)]
    have hq1 : (q : Int) + 1 ≤ 18446744073709551615 := by omega
    clear hc em hk hr
    go_enter Yba.func10, Yba.ntmps10
    go_wp2
    go_ret
    exact ⟨ret_u64 (by rw [HF.out]; rfl), rfl⟩

theorem divisor_facts (d : Nat) (h1 : 1 ≤ d) (h2 : d < 18446744073709551616) : ∃ M s1 s2 : Nat,
    (∀ w, Calls Yba.prog 8 #[.int .u64 d] w fun e w' => e = .returned (.agg #[.int .u64 d, .int .u64 M, .int .u8 s1, .int .u8 s2]) ∧ Below w.heap.size w w') ∧
    (∀ (n : Nat) w, n < 18446744073709551616 → Calls Yba.prog 9 #[.int .u64 n, .agg #[.int .u64 d, .int .u64 M, .int .u8 s1, .int .u8 s2]] w fun e w' => e = .returned (.int .u64 (ceilN n d)) ∧ Below w.heap.size w w') :=
  ⟨_, _, _, fun w => newDivisor_any d _ w h1 h2 rfl, fun n w hn => boundary_any d n w h1 h2 hn⟩

set_option maxHeartbeats 400000 in
theorem exact_any (n raw : Nat) (w : World) (hn : n < 18446744073709551616) (hr : raw < 18446744073709551616) :
    Calls Yba.prog 3 #[.int .u64 n, .int .u64 raw] w fun e w' => e = .returned (.bool true) ∧ Below w.heap.size w w' := by
  have HT : Hid (∀ w, Calls Yba.prog 7 #[.int .u64 raw] w fun e w' => e = .returned (.int .u64 (tickN raw)) ∧ w' = w) := tick_any raw
  have h1 := tickN_pos raw
  have h2 := tickN_lt raw hr
  generalize tickN raw = d at *
  obtain ⟨M, s1, s2, hN, hB⟩ := divisor_facts d h1 h2
  have HN : Hid (∀ w, Calls Yba.prog 8 #[.int .u64 d] w fun e w' => e = .returned (.agg #[.int .u64 d, .int .u64 M, .int .u8 s1, .int .u8 s2]) ∧ Below w.heap.size w w') := hN
  have HB := fun w => hB n w hn
  have HC := fun w => ceil_any n d w h1 hn
  generalize ceilN n d = c at *
  have HB' : Hid (∀ w, Calls Yba.prog 9 #[.int .u64 n, .agg #[.int .u64 d, .int .u64 M, .int .u8 s1, .int .u8 s2]] w fun e w' => e = .returned (.int .u64 c) ∧ Below w.heap.size w w') := HB
  have HC' : Hid (∀ w, Calls Yba.prog 10 #[.int .u64 n, .int .u64 d] w fun e w' => e = .returned (.int .u64 c) ∧ w' = w) := HC
  clear hN hB HB HC
  go_enter Yba.func3, Yba.ntmps3
  go_wp2_with (first
    | (go_at_call 7; refine (HT.out _).mono ?_; rintro e w' ⟨rfl, hw⟩; rw [hw])
    | (go_at_call 8; refine (HN.out _).mono ?_; rintro e w1 ⟨rfl, hb1⟩)
    | (go_at_call 9; refine (HB'.out _).mono ?_; rintro e w2 ⟨rfl, hb2⟩)
    | (go_at_call 10; refine (HC'.out _).mono ?_; rintro e w' ⟨rfl, hw⟩; rw [hw]))
  go_ret
  exact ⟨by simp, (hb1.alloc hb1.size _).trans (hb2.mono (by have := hb1.size; simp; omega))⟩
end Go.Proofs.Ybulkbaha
