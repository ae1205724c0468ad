import Derived.Test.YbulkbahaSrt0
namespace Go.Proofs.Ybulkbaha
open Go.RowKit Go.Sort

theorem siftDown_eq (hi first root : Nat) (d : Array Int) : siftDown ltInt hi first root d = if 2 * root + 1 ≥ hi then d else
    if 2 * root + 1 + 1 < hi && ltInt d[first + (2 * root + 1)]! d[first + (2 * root + 1) + 1]! then
      if !ltInt d[first + root]! d[first + (2 * root + 2)]! then d else siftDown ltInt hi first (2 * root + 2) (swp d (first + root) (first + (2 * root + 2)))
    else
      if !ltInt d[first + root]! d[first + (2 * root + 1)]! then d else siftDown ltInt hi first (2 * root + 1) (swp d (first + root) (first + (2 * root + 1))) := by
  rw [siftDown]
  by_cases h : 2 * root + 1 ≥ hi
  · simp [h]
  · simp only [h, dif_neg, not_false_eq_true, if_false]
    by_cases h2 : 2 * root + 1 + 1 < hi
    · simp [show 2 * root + 2 < hi by omega]
    · simp [show ¬ 2 * root + 2 < hi by omega]

set_option maxHeartbeats 1000000 in
theorem siftDown_any (blk n lo hi first : Nat) (d : Array Int) (w : World) (hr : Row w blk d) (hn : d.size = n) (hn2 : n ≤ 1024) (hlo : lo ≤ 1024) (hb : first + hi ≤ n) :
    Calls Yba.prog 34 #[.slice (some ⟨blk, 0, none⟩) n n, .int .i64 lo, .int .i64 hi, .int .i64 first] w fun e w' => e = .returned (.tuple #[]) ∧ Row w' blk (siftDown ltInt hi first lo d) ∧ Below blk w w' := by
  go_enter Yba.func34, Yba.ntmps34
  go_wp2_with fail
  go_loopw [8] (fun iv wr => ∃ (r : Nat) (d1 : Array Int), r ≤ 1024 ∧ iv = .int .i64 r ∧ d1.size = n ∧ Row wr blk d1 ∧ Hid (siftDown ltInt hi first r d1 = siftDown ltInt hi first lo d) ∧ Below blk w wr) (fun iv _ => 1024 - (intOf iv).toNat)
  case atStart => exact ⟨lo, d, hlo, rfl, hn, hr, rfl, Below.refl _ _⟩
  case round =>
    clear hr hn
    obtain ⟨r, d1, hr1, rfl, hs, hr, heq, hbel⟩ := hrel
    have HS : Hid (d1.size = n) := hs
    have HR : Hid (Row wr blk d1) := hr
    clear hs hr
    by_cases hlt : 2 * r + 1 ≥ hi
    · have hlt' : ¬ 2 * (r : Int) + 1 < hi := by omega
      go_wp2_with fail
      go_returns
      have h := heq.out
      rw [siftDown_eq, if_pos hlt] at h
      rw [← h]
      exact ⟨rfl, HR.out, hbel⟩
    · have hlt' : 2 * (r : Int) + 1 < hi := by omega
      go_upto_region 3 with fail
      go_cut [36] from 11 to 75 (fun bv wc => ∃ (bb : Bool) (q : Nat), bv = .bool bb ∧ wc = wr.drewN q ∧ Hid (bb = (decide (2 * r + 1 + 1 < hi) && ltInt d1[first + (2 * r + 1)]! d1[first + (2 * r + 1) + 1]!)))
      case first =>
        by_cases h2 : 2 * r + 1 + 1 < hi
        · have h2' : 2 * (r : Int) + 1 + 1 < hi := by omega
          have c1 := HR.out.cell (first + (2 * r + 1)) (by have := HS.out; omega)
          have c2 := HR.out.cell (first + (2 * r + 1) + 1) (by have := HS.out; omega)
          obtain ⟨x, hx⟩ : ∃ x, x = d1[first + (2 * r + 1)]! := ⟨_, rfl⟩
          obtain ⟨y, hy⟩ : ∃ y, y = d1[first + (2 * r + 1) + 1]! := ⟨_, rfl⟩
          rw [← hx] at c1
          rw [← hy] at c2
          have HX : Hid (x = d1[first + (2 * r + 1)]!) := hx
          have HY : Hid (y = d1[first + (2 * r + 1) + 1]!) := hy
          clear hx hy
          go_quiet ((go_at_call 30; first | exact Calls.quiet_of_same (less_any _ _ _) | exact less_drew _ _ _ _ _))
          go_wp2_with fail
          go_meet
          exact ⟨_, nq, rfl, rfl, by rw [← HX.out, ← HY.out, decide_eq_true h2, Bool.true_and]; rfl⟩
        · have h2' : decide (2 * (r : Int) + 1 + 1 < hi) = false := by simp; omega
          go_quiet (fail)
          go_wp2_with fail
          go_meet
          exact ⟨false, nq, rfl, rfl, by rw [decide_eq_false h2, Bool.false_and]; rfl⟩
      case rest =>
        obtain ⟨bb, q, rfl, rfl, hbb⟩ := hcut
        have c1 := HR.out.cell (first + r) (by have := HS.out; omega)
        have f1 := HR.out.free (first + r)
        obtain ⟨x, hx⟩ : ∃ x, x = d1[first + r]! := ⟨_, rfl⟩
        rw [← hx] at c1
        have HX : Hid (x = d1[first + r]!) := hx
        have hf : first ≤ 1024 := by omega
        have g1 : (first : Int) + r < n := by omega
        have e1 : IntKind.i64.wrap ((first : Int) + r) = (first : Int) + r := wrap_ok _ (by omega) (by omega)
        clear hx hlt'
        cases bb
        · have HE : Hid (siftDown ltInt hi first r d1 = if !ltInt d1[first + r]! d1[first + (2 * r + 1)]! then d1 else siftDown ltInt hi first (2 * r + 1) (swp d1 (first + r) (first + (2 * r + 1)))) := by
            rw [siftDown_eq, if_neg hlt, ← hbb.out]
            rfl
          have hch : 2 * r + 1 < hi := by
            have := hbb.out
            omega
          clear hbb
          have c2 := HR.out.cell (first + (2 * r + 1)) (by have := HS.out; omega)
          have f2 := HR.out.free (first + (2 * r + 1))
          obtain ⟨y, hy⟩ : ∃ y, y = d1[first + (2 * r + 1)]! := ⟨_, rfl⟩
          rw [← hy] at c2
          have HY : Hid (y = d1[first + (2 * r + 1)]!) := hy
          have g2 : (first : Int) + (2 * (r : Int) + 1) < n := by omega
          have e2 : IntKind.i64.wrap ((first : Int) + (2 * (r : Int) + 1)) = (first : Int) + (2 * (r : Int) + 1) := wrap_ok _ (by omega) (by omega)
          clear hy hlt
          by_cases hl : ltInt x y = true
          · go_wp2_with fail
            go_quiet ((go_at_call 30; first | exact Calls.quiet_of_same (less_any _ _ _) | exact less_drew _ _ _ _ _))
            go_wp2_with fail
            go_region
            go_wp2_with fail
            go_roundw
            case rel =>
              refine ⟨2 * r + 1, swp d1 (first + r) (first + (2 * r + 1)), by omega, by go_num, by rw [size_swp]; exact HS.out, ?_, ?_, (((belN hbel _)).setCell (Nat.le_refl _) _).setCell (Nat.le_refl _) _⟩
              · have h := (HR.out.drewN (q + nq + 1)).swap (first + r) (first + (2 * r + 1))
                rw [← HX.out, ← HY.out] at h
                exact h
              · have h := HE.out
                rw [← HX.out, ← HY.out, hl, if_neg (by simp)] at h
                rw [← h]; exact heq.out
            case measure => simp [intOf] <;> omega
          · have hl' : ltInt x y = false := by simpa using hl
            clear hl
            go_wp2_with fail
            go_quiet ((go_at_call 30; first | exact Calls.quiet_of_same (less_any _ _ _) | exact less_drew _ _ _ _ _))
            go_wp2_with fail
            go_returns
            have h := HE.out
            rw [← HX.out, ← HY.out, hl', if_pos (by simp), heq.out] at h
            rw [h]
            exact ⟨rfl, HR.out, belN (belN hbel _) _⟩
        · have HE : Hid (siftDown ltInt hi first r d1 = if !ltInt d1[first + r]! d1[first + (2 * r + 1 + 1)]! then d1 else siftDown ltInt hi first (2 * r + 1 + 1) (swp d1 (first + r) (first + (2 * r + 1 + 1)))) := by
            rw [siftDown_eq, if_neg hlt, ← hbb.out]
            rfl
          have hch : 2 * r + 1 + 1 < hi := by
            have := hbb.out
            simp at this; omega
          clear hbb
          have c2 := HR.out.cell (first + (2 * r + 1 + 1)) (by have := HS.out; omega)
          have f2 := HR.out.free (first + (2 * r + 1 + 1))
          obtain ⟨y, hy⟩ : ∃ y, y = d1[first + (2 * r + 1 + 1)]! := ⟨_, rfl⟩
          rw [← hy] at c2
          have HY : Hid (y = d1[first + (2 * r + 1 + 1)]!) := hy
          have g2 : (first : Int) + (2 * (r : Int) + 1 + 1) < n := by omega
          have e2 : IntKind.i64.wrap ((first : Int) + (2 * (r : Int) + 1 + 1)) = (first : Int) + (2 * (r : Int) + 1 + 1) := wrap_ok _ (by omega) (by omega)
          clear hy hlt
          by_cases hl : ltInt x y = true
          · go_wp2_with fail
            go_quiet ((go_at_call 30; first | exact Calls.quiet_of_same (less_any _ _ _) | exact less_drew _ _ _ _ _))
            go_wp2_with fail
            go_region
            go_wp2_with fail
            go_roundw
            case rel =>
              refine ⟨2 * r + 1 + 1, swp d1 (first + r) (first + (2 * r + 1 + 1)), by omega, by go_num, by rw [size_swp]; exact HS.out, ?_, ?_, (((belN hbel _)).setCell (Nat.le_refl _) _).setCell (Nat.le_refl _) _⟩
              · have h := (HR.out.drewN (q + nq + 1)).swap (first + r) (first + (2 * r + 1 + 1))
                rw [← HX.out, ← HY.out] at h
                exact h
              · have h := HE.out
                rw [← HX.out, ← HY.out, hl, if_neg (by simp)] at h
                rw [← h]; exact heq.out
            case measure => simp [intOf] <;> omega
          · have hl' : ltInt x y = false := by simpa using hl
            clear hl
            go_wp2_with fail
            go_quiet ((go_at_call 30; first | exact Calls.quiet_of_same (less_any _ _ _) | exact less_drew _ _ _ _ _))
            go_wp2_with fail
            go_returns
            have h := HE.out
            rw [← HX.out, ← HY.out, hl', if_pos (by simp), heq.out] at h
            rw [h]
            exact ⟨rfl, HR.out, belN (belN hbel _) _⟩
end Go.Proofs.Ybulkbaha
