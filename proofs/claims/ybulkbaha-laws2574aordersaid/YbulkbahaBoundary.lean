import Derived.Test.YbulkbahaDivisor
namespace Go.Proofs.Ybulkbaha
open Go.RowKit
open Go.Proofs.Ybulkbaha.Plain

theorem shifts_eq (n t s1 s2 : Nat) (hn : n < 18446744073709551616) (ht : t ≤ n) :
    IntKind.u64.wrap ((t : Int) + ((n : Int) - t) / 2 ^ s1) / 2 ^ s2 = (((t + (n - t) / 2 ^ s1) / 2 ^ s2 : Nat) : Int) := by
  have e1 : (n : Int) - t = ((n - t : Nat) : Int) := by omega
  have hd : (n - t) / 2 ^ s1 ≤ n - t := Nat.div_le_self _ _
  have e2 : ((n - t : Nat) : Int) / 2 ^ s1 = (((n - t) / 2 ^ s1 : Nat) : Int) := by simp
  rw [e1, e2]
  generalize (n - t) / 2 ^ s1 = a at *
  rw [wrapZ ((t : Int) + a) (t + a) (by omega) (by omega)]
  simp

theorem ret_u64 {a b : Int} (h : a = b) : Ending.returned (.int .u64 a) = .returned (.int .u64 b) := by rw [h]

set_option maxHeartbeats 400000 in
theorem div_walk (d M s1 s2 n t x : Nat) (w : World) (hs1 : s1 ≤ 1) (hs2 : s2 ≤ 63) (hn : n < 18446744073709551616) (ht : t ≤ n)
    (HM : Hid (∀ w, Calls Yba.prog 23 #[.int .u64 M, .int .u64 n] w fun e w' => e = .returned (.tuple #[.int .u64 t, .int .u64 x]) ∧ w' = w)) :
    Calls Yba.prog 17 #[.agg #[.int .u64 d, .int .u64 M, .int .u8 s1, .int .u8 s2], .int .u64 n] w fun e w' => e = .returned (.int .u64 (((t + (n - t) / 2 ^ s1) / 2 ^ s2 : Nat) : Int)) ∧ Below w.heap.size w w' := by
  have HE : Hid (IntKind.u64.wrap ((t : Int) + ((n : Int) - t) / 2 ^ s1) / 2 ^ s2 = (((t + (n - t) / 2 ^ s1) / 2 ^ s2 : Nat) : Int)) := shifts_eq n t s1 s2 hn ht
  go_enter Yba.func17, Yba.ntmps17
  go_wp2_with (go_at_call 23; refine (HM.out _).mono ?_; rintro e w' ⟨rfl, hw⟩; rw [hw])
  go_ret
  exact ⟨ret_u64 HE.out, (Below.refl _ _).alloc (Nat.le_refl _) _⟩

/-- The divisor for d, as newDivisor makes it. -/
def dv (d l : Nat) : Value := .agg #[.int .u64 d, .int .u64 (((2 ^ l - d) * 18446744073709551616 / d + 1 : Nat) : Int), .int .u8 ((min l 1 : Nat) : Int), .int .u8 ((l - 1 : Nat) : Int)]

theorem hiword_le (d l n : Nat) (h2 : 2 ^ l - d < d) (h3 : d < 18446744073709551616) : ((2 ^ l - d) * 18446744073709551616 / d + 1) * n / 18446744073709551616 ≤ n := by
  have := quo_small d (2 ^ l - d) h2 h3
  exact Nat.div_le_of_le_mul (Nat.mul_le_mul_right _ (by omega))

theorem quo_eq (d l n t : Nat) (h1 : 1 ≤ d) (hl : d ≤ 2 ^ l) (hn : n < 18446744073709551616) (htn : t ≤ n)
    (et : t = ((2 ^ l - d) * 18446744073709551616 / d + 1) * n / 18446744073709551616) :
    (t + (n - t) / 2 ^ min l 1) / 2 ^ (l - 1) = n / d := by
  by_cases h0 : l = 0
  · subst h0
    have hd : d = 1 := by simp at hl; omega
    subst hd
    have ht : t = 0 := by rw [et]; simp; omega
    simp [ht]
  · have g := gm d l n h1 hl (by simpa using hn)
    obtain ⟨k, rfl⟩ : ∃ k, l = k + 1 := ⟨l - 1, by omega⟩
    have e : t = ((2 ^ 64 * (2 ^ (k + 1) - d) / d + 1) * n / 2 ^ 64) := by rw [et, Nat.mul_comm (2 ^ (k + 1) - d)]
    rw [← e] at g
    rw [show min (k + 1) 1 = 1 by omega, Nat.add_sub_cancel, Nat.pow_one, ← g, Nat.pow_succ, Nat.mul_comm (2 ^ k) 2, ← Nat.div_div_eq_div_mul]
    congr 1
    omega

theorem div_any (d n : Nat) (w : World) (h1 : 1 ≤ d) (h2 : d < 18446744073709551616) (hn : n < 18446744073709551616) :
    Calls Yba.prog 17 #[dv d (Lib.bitLen (d - 1)), .int .u64 n] w fun e w' => e = .returned (.int .u64 ((n / d : Nat) : Int)) ∧ Below w.heap.size w w' := by
  obtain ⟨a1, a2, a3, a4⟩ := log_facts d h1 h2
  generalize Lib.bitLen (d - 1) = l at *
  have hm := quo_small d (2 ^ l - d) a2 h2
  have htn := hiword_le d l n a2 h2
  rw [← quo_eq d l n _ h1 a1 hn htn rfl]
  exact div_walk d _ _ _ n _ _ w (by omega) (by omega) hn htn (fun w => Yba.bits_Mul64 ((2 ^ l - d) * 18446744073709551616 / d + 1) n (by omega) hn w)

/-- The ceiling. -/
def ceilN (n d : Nat) : Nat := n / d + if n / d * d < n then 1 else 0

theorem mul_le_self' (n d : Nat) : n / d * d ≤ n := Nat.div_mul_le_self n d

set_option maxHeartbeats 400000 in
theorem boundary_walk (d M s1 s2 n k c : Nat) (w : World) (hn : n < 18446744073709551616) (h1 : 1 ≤ d) (hk : k * d ≤ n) (hc : c = k + if k * d < n then 1 else 0)
    (HM : Hid (∀ w, Calls Yba.prog 17 #[.agg #[.int .u64 d, .int .u64 M, .int .u8 s1, .int .u8 s2], .int .u64 n] w fun e w' => e = .returned (.int .u64 k) ∧ Below w.heap.size w w')) :
    Calls Yba.prog 9 #[.int .u64 n, .agg #[.int .u64 d, .int .u64 M, .int .u8 s1, .int .u8 s2]] w fun e w' => e = .returned (.int .u64 c) ∧ Below w.heap.size w w' := by
  have e1 : IntKind.u64.wrap ((k : Int) * d) = ((k * d : Nat) : Int) := wrapZ _ _ (by omega) (by simp)
  have hkp : k ≤ k * d := Nat.le_mul_of_pos_right _ (by omega)
  generalize k * d = p at *
  have HC : Hid (c = k + if p < n then 1 else 0) := hc
  clear hc
  by_cases hlt : p < n
  · have hk1 : (k : Int) + 1 ≤ 18446744073709551615 := by omega
    have hlt' : (p : Int) < n := by omega
    go_enter Yba.func9, Yba.ntmps9
    go_wp2_with (go_at_call 17; refine (HM.out _).mono ?_; rintro e w' ⟨rfl, hw⟩; have hcd : w'.cell? ⟨w.heap.size, 0, none⟩ = some (.int .u64 d) := (hw.cell (by simp)).trans (by simp))
    go_ret
    refine ⟨ret_u64 ?_, ((Below.refl _ _).alloc (Nat.le_refl _) _).trans (hw.mono (by simp))⟩
    rw [HC.out, if_pos hlt]; rfl
  · have hlt' : ¬ (p : Int) < n := by omega
    go_enter Yba.func9, Yba.ntmps9
    go_wp2_with (go_at_call 17; refine (HM.out _).mono ?_; rintro e w' ⟨rfl, hw⟩; have hcd : w'.cell? ⟨w.heap.size, 0, none⟩ = some (.int .u64 d) := (hw.cell (by simp)).trans (by simp))
    go_ret
    refine ⟨ret_u64 ?_, ((Below.refl _ _).alloc (Nat.le_refl _) _).trans (hw.mono (by simp))⟩
    rw [HC.out, if_neg hlt]; rfl

theorem boundary_any (d n : Nat) (w : World) (h1 : 1 ≤ d) (h2 : d < 18446744073709551616) (hn : n < 18446744073709551616) :
    Calls Yba.prog 9 #[.int .u64 n, dv d (Lib.bitLen (d - 1))] w fun e w' => e = .returned (.int .u64 (ceilN n d)) ∧ Below w.heap.size w w' :=
  boundary_walk d _ _ _ n (n / d) (ceilN n d) w hn h1 (mul_le_self' n d) rfl (fun w => div_any d n w h1 h2 hn)
end Go.Proofs.Ybulkbaha
