import Derived.Test.YbulkbahaSrt0
namespace Go.Proofs.Ybulkbaha
open Go.RowKit Go.Sort

theorem insOuter_eq (a b i : Nat) (d : Array Int) : insOuter ltInt a b i d = if i < b then insOuter ltInt a b (i + 1) (insInner ltInt a i d) else d := by rw [insOuter]
theorem size_insInner (a : Nat) : ∀ (j : Nat) (d : Array Int), (insInner ltInt a j d).size = d.size := by
  intro j
  induction j with
  | zero => intro d; rfl
  | succ j ih => intro d; unfold insInner; split <;> simp [ih, size_swp]

set_option maxHeartbeats 1000000 in
theorem insertionSort_any (blk n a b : Nat) (d : Array Int) (w : World) (hr : Row w blk d) (hn : d.size = n) (hn2 : n ≤ 1024) (hab : a ≤ b) (hb : b ≤ n) :
    Calls Yba.prog 24 #[.slice (some ⟨blk, 0, none⟩) n n, .int .i64 a, .int .i64 b] w fun e w' => e = .returned (.tuple #[]) ∧ Row w' blk (insertionSort ltInt d a b) ∧ Below blk w w' := by
  go_enter Yba.func24, Yba.ntmps24
  go_wp2_with fail
  go_loopw [6] (fun iv wr => ∃ (i : Nat) (d1 : Array Int), a + 1 ≤ i ∧ i ≤ b + 1 ∧ iv = .int .i64 i ∧ d1.size = n ∧ Row wr blk d1 ∧ Hid (insOuter ltInt a b i d1 = insertionSort ltInt d a b) ∧ Below blk w wr) (fun iv _ => b + 1 - (intOf iv).toNat)
  case atStart => exact ⟨a + 1, d, by omega, by omega, by go_num, hn, hr, rfl, Below.refl _ _⟩
  case round =>
    clear hr hn
    obtain ⟨i, d1, hi1, hi2, rfl, hs, hr, heq, hbel⟩ := hrel
    by_cases hlt : i < b
    · have HS : Hid (d1.size = n) := hs
      have HR : Hid (Row wr blk d1) := hr
      clear hs hr
      have hlt' : (i : Int) < b := by omega
      go_wp2_with fail
      go_loopw [7] (fun jv wr => ∃ (j : Nat) (d2 : Array Int), a ≤ j ∧ j ≤ i ∧ jv = .int .i64 j ∧ d2.size = n ∧ Row wr blk d2 ∧ Hid (insInner ltInt a j d2 = insInner ltInt a i d1) ∧ Below blk w wr) (fun jv _ => (intOf jv).toNat)
      case atStart => exact ⟨i, d1, by omega, by omega, rfl, HS.out, HR.out, rfl, hbel⟩
      case round =>
        clear HR hbel
        obtain ⟨j, d2, hj1, hj2, rfl, hs, hr, heq2, hbel⟩ := hrel
        by_cases hja : a < j
        · obtain ⟨j, rfl⟩ : ∃ k, j = k + 1 := ⟨j - 1, by omega⟩
          have c1 := hr.cell (j + 1) (by omega)
          have c0 := hr.cell j (by omega)
          have f1 := hr.free (j + 1)
          have f0 := hr.free j
          obtain ⟨x, hx⟩ : ∃ x, x = d2[j + 1]! := ⟨_, rfl⟩
          obtain ⟨y, hy⟩ : ∃ y, y = d2[j]! := ⟨_, rfl⟩
          rw [← hx] at c1
          rw [← hy] at c0
          have HX : Hid (x = d2[j + 1]!) := hx
          have HY : Hid (y = d2[j]!) := hy
          have HR : Hid (Row wr blk d2) := hr
          have HS2 : Hid (d2.size = n) := hs
          have g1 : (a : Int) < (j : Int) + 1 := by omega
          have g2 : (j : Int) + 1 < n := by omega
          have g3 : (j : Int) < n := by omega
          clear hx hy hr hs
          by_cases hl : ltInt x y = true
          · go_wp2_with fail
            go_quiet ((go_at_call 30; exact Calls.quiet_of_same (less_any _ _ _)))
            go_wp2_with fail
            go_region
            go_wp2_with fail
            go_roundw
            case rel =>
              refine ⟨j, swp d2 (j + 1) j, by omega, by omega, by go_num, by rw [size_swp]; exact HS2.out, ?_, ?_, (((belN hbel _)).setCell (Nat.le_refl _) _).setCell (Nat.le_refl _) _⟩
              · have h := (HR.out.drewN (nq + 1)).swap (j + 1) j
                rw [← HX.out, ← HY.out] at h
                exact h
              · have h := heq2.out
                rw [insInner, ← HX.out, ← HY.out, hl, if_pos (by simp; omega)] at h
                exact h
            case measure => simp [intOf] <;> omega
          · have hl' : ltInt x y = false := by simpa using hl
            clear hl
            go_wp2_with fail
            go_quiet ((go_at_call 30; exact Calls.quiet_of_same (less_any _ _ _)))
            go_wp2_with fail
            go_roundw
            case rel =>
              refine ⟨i + 1, d2, by omega, by omega, by go_num, HS2.out, HR.out.drewN _, ?_, belN hbel _⟩
              have h := heq2.out
              rw [insInner, ← HX.out, ← HY.out, hl', if_neg (by simp)] at h
              have h2 := heq.out
              rw [insOuter_eq, if_pos hlt, ← h] at h2
              exact h2
            case measure => simp [intOf] <;> omega
        · have hja' : decide ((a : Int) < (j : Int)) = false := by simp; omega
          go_wp2_with fail
          go_quiet (fail)
          go_wp2_with fail
          go_roundw
          case rel =>
            refine ⟨i + 1, d2, by omega, by omega, by go_num, hs, hr.drewN _, ?_, belN hbel _⟩
            have h := heq2.out
            have e : insInner ltInt a j d2 = d2 := by
              cases j with
              | zero => rfl
              | succ j => rw [insInner, if_neg (by simp; omega)]
            rw [e] at h
            have h2 := heq.out
            rw [insOuter_eq, if_pos hlt, ← h] at h2
            exact h2
          case measure => simp [intOf] <;> omega
    · have hlt' : ¬ (i : Int) < b := by omega
      go_wp2_with fail
      go_returns
      have h := heq.out
      rw [insOuter_eq, if_neg hlt] at h
      rw [← h]
      exact ⟨rfl, hr, hbel⟩
end Go.Proofs.Ybulkbaha
