import Derived.Test.YbulkbahaSrt2
namespace Go.Proofs.Ybulkbaha
open Go.RowKit Go.Sort

theorem reverseLoop_eq (i j : Nat) (d : Array Int) : reverseLoop i j d = if i < j then reverseLoop (i + 1) (j - 1) (swp d i j) else d := by rw [reverseLoop]

set_option maxHeartbeats 1000000 in
theorem reverseRange_any (blk n a b : Nat) (d : Array Int) (w : World) (hr : Row w blk d) (hn : d.size = n) (hn2 : n ≤ 1024) (hab : a < b) (hb : b ≤ n) :
    Calls Yba.prog 28 #[.slice (some ⟨blk, 0, none⟩) n n, .int .i64 a, .int .i64 b] w fun e w' => e = .returned (.tuple #[]) ∧ Row w' blk (reverseRange d a b) ∧ Below blk w w' := by
  go_enter Yba.func28, Yba.ntmps28
  go_wp2_with fail
  go_loopw [6, 7] (fun iv jv wr => ∃ (i j : Nat) (d1 : Array Int), a ≤ i ∧ j < b ∧ i ≤ j + 1 ∧ iv = .int .i64 i ∧ jv = .int .i64 j ∧ d1.size = n ∧ Row wr blk d1 ∧ Hid (reverseLoop i j d1 = reverseRange d a b) ∧ Below blk w wr) (fun _ jv _ => (intOf jv).toNat)
  case atStart => exact ⟨a, b - 1, d, by omega, by omega, by omega, rfl, by go_num, hn, hr, rfl, Below.refl _ _⟩
  case round =>
    clear hr hn
    obtain ⟨i, j, d1, hi1, hj1, hij, rfl, rfl, hs, hr, heq, hbel⟩ := hrel
    by_cases hlt : i < j
    · have hlt' : (i : Int) < j := by omega
      have c1 := hr.cell i (by omega)
      have c0 := hr.cell j (by omega)
      have f1 := hr.free i
      have f0 := hr.free j
      obtain ⟨x, hx⟩ : ∃ x, x = d1[i]! := ⟨_, rfl⟩
      obtain ⟨y, hy⟩ : ∃ y, y = d1[j]! := ⟨_, rfl⟩
      rw [← hx] at c1
      rw [← hy] at c0
      have HX : Hid (x = d1[i]!) := hx
      have HY : Hid (y = d1[j]!) := hy
      have HR : Hid (Row wr blk d1) := hr
      have HS : Hid (d1.size = n) := hs
      clear hx hy hr hs
      go_wp2_with fail
      go_region
      go_wp2_with fail
      go_roundw
      case rel =>
        refine ⟨i + 1, j - 1, swp d1 i j, by omega, by omega, by omega, by go_num, by go_num, by rw [size_swp]; exact HS.out, ?_, ?_, ((hbel.drew).setCell (Nat.le_refl _) _).setCell (Nat.le_refl _) _⟩
        · have h := (HR.out.drew).swap i j
          rw [← HX.out, ← HY.out] at h
          exact h
        · have h := heq.out
          rw [reverseLoop_eq, if_pos hlt] at h
          exact h
      case measure => simp [intOf] <;> omega
    · have hlt' : ¬ (i : Int) < j := by omega
      go_wp2_with fail
      go_returns
      have h := heq.out
      rw [reverseLoop_eq, if_neg hlt] at h
      rw [← h]
      exact ⟨rfl, hr, hbel⟩

theorem size_siftDown (hi first : Nat) : ∀ (m root : Nat) (d : Array Int), hi - root ≤ m → (siftDown ltInt hi first root d).size = d.size := by
  intro m
  induction m with
  | zero => intro root d h; rw [siftDown_eq, if_pos (by omega)]
  | succ m ih =>
    intro root d h
    rw [siftDown_eq]
    split
    · rfl
    · split
      · split
        · rfl
        · rw [ih _ _ (by omega), size_swp]
      · split
        · rfl
        · rw [ih _ _ (by omega), size_swp]

set_option maxHeartbeats 1000000 in
theorem heapSort_any (blk n a b : Nat) (d : Array Int) (w : World) (hr : Row w blk d) (hn : d.size = n) (hn2 : n ≤ 1024) (hab : a < b) (hb : b ≤ n) :
    Calls Yba.prog 25 #[.slice (some ⟨blk, 0, none⟩) n n, .int .i64 a, .int .i64 b] w fun e w' => e = .returned (.tuple #[]) ∧ Row w' blk (heapSort ltInt d a b) ∧ Below blk w w' := by
  obtain ⟨h, hh⟩ : ∃ h, h = b - a := ⟨_, rfl⟩
  have HH : Hid (h = b - a) := hh
  have hbI : (b : Int) - a = h := by omega
  have hha : a + h ≤ n := by omega
  have hp : 1 ≤ h := by omega
  clear hh
  go_enter Yba.func25, Yba.ntmps25
  go_wp2_with fail
  go_loopw [9] (fun iv wr => ∃ (k : Nat) (d1 : Array Int), k ≤ 1024 ∧ iv = .int .i64 ((k : Int) - 1) ∧ d1.size = n ∧ Row wr blk d1 ∧ Hid (heapBuild ltInt h a k d1 = heapBuild ltInt h a ((h - 1) / 2 + 1) d) ∧ Below blk w wr) (fun iv _ => (intOf iv + 1).toNat)
  case atStart => exact ⟨(h - 1) / 2 + 1, d, by omega, by go_num, hn, hr, rfl, Below.refl _ _⟩
  case round =>
    clear hr hn
    obtain ⟨k, d1, hk, rfl, hs, hr, heq, hbel⟩ := hrel
    by_cases hlt : 0 < k
    · obtain ⟨k, rfl⟩ : ∃ m, k = m + 1 := ⟨k - 1, by omega⟩
      have e : ((k + 1 : Nat) : Int) - 1 = k := by omega
      rw [e]
      clear e
      have hlt' : (0 : Int) ≤ k := by omega
      go_wp2_with fail
      refine (siftDown_any blk n k h a d1 _ hr hs hn2 (by omega) hha).mono ?_
      rintro e w1 ⟨rfl, hr1, hb1⟩
      go_wp2_with fail
      go_roundw
      case rel => exact ⟨k, _, by omega, by go_num, by rw [size_siftDown h a h _ _ (by omega)]; exact hs, hr1, heq, hbel.trans hb1⟩
      case measure => simp [intOf] <;> omega
    · obtain rfl : k = 0 := by omega
      clear hlt hk
      go_wp2_with fail
      have HB : Hid (d1 = heapBuild ltInt h a ((h - 1) / 2 + 1) d) := heq.out
      clear heq
      go_loopw [10] (fun iv wr => ∃ (k : Nat) (d2 : Array Int), k ≤ h ∧ iv = .int .i64 ((k : Int) - 1) ∧ d2.size = n ∧ Row wr blk d2 ∧ Hid (heapPop ltInt a k d2 = heapPop ltInt a h d1) ∧ Below blk w wr) (fun iv _ => (intOf iv + 1).toNat)
      case atStart => exact ⟨h, d1, by omega, by go_num, hs, hr, rfl, hbel⟩
      case round =>
        clear hr hbel
        obtain ⟨k, d2, hk, rfl, hs2, hr, heq, hbel⟩ := hrel
        by_cases hlt : 0 < k
        · obtain ⟨k, rfl⟩ : ∃ m, k = m + 1 := ⟨k - 1, by omega⟩
          have e : ((k + 1 : Nat) : Int) - 1 = k := by omega
          rw [e]
          clear e
          have hlt' : (0 : Int) ≤ k := by omega
          have c1 := hr.cell a (by omega)
          have c0 := hr.cell (a + k) (by omega)
          have f1 := hr.free a
          have f0 := hr.free (a + k)
          obtain ⟨x, hx⟩ : ∃ x, x = d2[a]! := ⟨_, rfl⟩
          obtain ⟨y, hy⟩ : ∃ y, y = d2[a + k]! := ⟨_, rfl⟩
          rw [← hx] at c1
          rw [← hy] at c0
          have HX : Hid (x = d2[a]!) := hx
          have HY : Hid (y = d2[a + k]!) := hy
          have HR : Hid (Row wr blk d2) := hr
          have HS : Hid (d2.size = n) := hs2
          have gk : (a : Int) + k < n := by omega
          have ga : (a : Int) < n := by omega
          clear hx hy hr hs2
          go_upto_region 10 with fail
          go_cut [] from 29 to 55 (fun wc => Row wc blk (swp d2 a (a + k)) ∧ Below blk w wc)
          case first =>
            by_cases hk0 : k = 0
            · subst hk0
              obtain rfl : x = y := by rw [HX.out, HY.out]; rfl
              rw [Nat.add_zero] at c0 f0
              go_region
              go_wp2_with fail
              go_meet
              refine ⟨?_, ((hbel).setCell (Nat.le_refl _) _).setCell (Nat.le_refl _) _ |>.drew⟩
              have h := HR.out.swap a (a + 0)
              have e1 := HX.out
              simp only [Nat.add_zero] at h ⊢
              rw [← e1] at h
              exact h
            · have hk1 : 0 < k := by omega
              go_region
              go_wp2_with fail
              go_meet
              refine ⟨?_, ((hbel.drew).setCell (Nat.le_refl _) _).setCell (Nat.le_refl _) _⟩
              have h := (HR.out.drew).swap a (a + k)
              rw [← HX.out, ← HY.out] at h
              exact h
          case rest =>
          obtain ⟨hr2, hb2⟩ := hcut
          go_wp2_with fail
          refine (siftDown_any blk n 0 k a (swp d2 a (a + k)) _ hr2 (by rw [size_swp]; exact HS.out) hn2 (by omega) (by omega)).mono ?_
          rintro e w1 ⟨rfl, hr1, hb1⟩
          go_wp2_with fail
          go_roundw
          case rel =>
            have hz : (siftDown ltInt k a 0 (swp d2 a (a + k))).size = n := by rw [size_siftDown k a k _ _ (by omega), size_swp]; exact HS.out
            repeat apply Exists.intro
            exact ⟨⟨k, _, by omega, by go_num, hz, hr1, heq, hb2.trans hb1⟩, rfl⟩
          case measure => simp [intOf] <;> omega
        · obtain rfl : k = 0 := by omega
          go_wp2_with fail
          go_returns
          have e : heapSort ltInt d a b = d2 := by
            unfold heapSort
            rw [← HH.out, ← HB.out, ← heq.out]
            rfl
          rw [e]
          exact ⟨rfl, hr, hbel⟩
end Go.Proofs.Ybulkbaha
