import Derived.Test.YbulkbahaSrt0
namespace Go.Proofs.Ybulkbaha
open Go.RowKit Go.Sort

/-- The counter of exchanges lies in block sb. -/
def Cnt (w : World) (sb s : Nat) : Prop := w.heap[sb]? = some (.cells #[.int .i64 (s : Int)] 3 (0, 0))
theorem Cnt.cell {w : World} {sb s : Nat} (h : Cnt w sb s) : w.cell? ⟨sb, 0, none⟩ = some (.int .i64 s) := by
  unfold Cnt at h
  unfold World.cell?
  rw [h]; rfl
theorem Cnt.free {w : World} {sb s : Nat} (h : Cnt w sb s) : w.frozen? ⟨sb, 0, none⟩ = false := by
  unfold Cnt at h
  unfold World.frozen?
  rw [h]; rfl
theorem Cnt.set {w : World} {sb s : Nat} (h : Cnt w sb s) (m : Nat) : Cnt (w.setCell ⟨sb, 0, none⟩ (.int .i64 (m : Int))) sb m := by
  have h' := heap_setCell_same w sb 0 #[.int .i64 (s : Int)] 3 (.int .i64 (m : Int)) h
  unfold Cnt
  rw [h']; rfl
theorem Row.keep {w w' : World} {B blk : Nat} {d : Array Int} (h : Row w blk d) (hb : Below B w w') (hlt : blk < B) : Row w' blk d := (hb.block blk hlt).trans h

theorem order2_lt (d : Array Int) (a b s n : Nat) (ha : a < n) (hb : b < n) : (order2 ltInt d a b s).1 < n ∧ (order2 ltInt d a b s).2.1 < n ∧ (order2 ltInt d a b s).2.2 ≤ s + 1 := by
  unfold order2
  split
  · exact ⟨hb, ha, Nat.le_refl _⟩
  · exact ⟨ha, hb, Nat.le_succ _⟩

set_option maxHeartbeats 1000000 in
theorem order2_any (blk n sb s a b : Nat) (d : Array Int) (w : World) (hr : Row w blk d) (hn : d.size = n) (_hn2 : n ≤ 1024) (hc : Cnt w sb s) (_hlt : blk < sb) (ha : a < n) (hb : b < n) (hs : s ≤ 100) :
    Calls Yba.prog 40 #[.slice (some ⟨blk, 0, none⟩) n n, .int .i64 a, .int .i64 b, .pointer (some ⟨sb, 0, none⟩)] w fun e w' => e = .returned (.tuple #[.int .i64 (order2 ltInt d a b s).1, .int .i64 (order2 ltInt d a b s).2.1]) ∧ Cnt w' sb (order2 ltInt d a b s).2.2 ∧ Below sb w w' := by
  have c1 := hr.cell a (by omega)
  have c2 := hr.cell b (by omega)
  have c3 := hc.cell
  have f3 := hc.free
  obtain ⟨x, hx⟩ : ∃ x, x = d[a]! := ⟨_, rfl⟩
  obtain ⟨y, hy⟩ : ∃ y, y = d[b]! := ⟨_, rfl⟩
  rw [← hx] at c1
  rw [← hy] at c2
  have HX : Hid (x = d[a]!) := hx
  have HY : Hid (y = d[b]!) := hy
  have HC : Hid (Cnt w sb s) := hc
  have g1 : (a : Int) < n := by omega
  have g2 : (b : Int) < n := by omega
  clear hx hy hr hc
  go_enter Yba.func40, Yba.ntmps40
  go_wp2_with fail
  go_quiet ((go_at_call 30; first | exact Calls.quiet_of_same (less_any _ _ _) | exact less_drew _ _ _ _ _))
  go_wp2_with fail
  · rename_i hl
    go_returns
    have e : order2 ltInt d a b s = (b, a, s + 1) := by unfold order2; rw [← HX.out, ← HY.out, if_pos hl]
    rw [e]
    exact ⟨rfl, HC.out.set (s + 1), (belN (Below.refl sb w) _).setCell (by exact Nat.le_refl sb) _⟩
  · rename_i hl
    go_returns
    have e : order2 ltInt d a b s = (a, b, s) := by unfold order2; rw [← HX.out, ← HY.out, if_neg (by simp [hl])]
    rw [e]
    exact ⟨rfl, HC.out, belN (Below.refl _ _) _⟩

theorem median_lt (d : Array Int) (a b c s n : Nat) (ha : a < n) (hb : b < n) (hc : c < n) : (median ltInt d a b c s).1 < n ∧ (median ltInt d a b c s).2 ≤ s + 3 := by
  obtain ⟨p1, p2, p3⟩ := order2_lt d a b s n ha hb
  obtain ⟨q1, q2, q3⟩ := order2_lt d _ c (order2 ltInt d a b s).2.2 n p2 hc
  obtain ⟨r1, r2, r3⟩ := order2_lt d _ _ (order2 ltInt d (order2 ltInt d a b s).2.1 c (order2 ltInt d a b s).2.2).2.2 n p1 q1
  exact ⟨r2, by unfold median; simp only; omega⟩

set_option maxHeartbeats 1000000 in
theorem median_any (blk n sb s a b c : Nat) (d : Array Int) (w : World) (hr : Row w blk d) (hn : d.size = n) (hn2 : n ≤ 1024) (hc : Cnt w sb s) (hlt : blk < sb) (ha : a < n) (hb : b < n) (hcn : c < n) (hs : s ≤ 90) :
    Calls Yba.prog 38 #[.slice (some ⟨blk, 0, none⟩) n n, .int .i64 a, .int .i64 b, .int .i64 c, .pointer (some ⟨sb, 0, none⟩)] w fun e w' => e = .returned (.int .i64 (median ltInt d a b c s).1) ∧ Cnt w' sb (median ltInt d a b c s).2 ∧ Below sb w w' := by
  obtain ⟨p1, p2, p3⟩ := order2_lt d a b s n ha hb
  obtain ⟨q1, q2, q3⟩ := order2_lt d _ c (order2 ltInt d a b s).2.2 n p2 hcn
  have HA : Hid (Row w blk d) := hr
  have HN : Hid (d.size = n) := hn
  have HC : Hid (Cnt w sb s) := hc
  clear hr hn hc
  go_enter Yba.func38, Yba.ntmps38
  go_wp2_with fail
  refine (order2_any blk n sb s a b d _ HA.out HN.out hn2 HC.out hlt ha hb (by omega)).mono ?_
  rintro e w1 ⟨rfl, hc1, hb1⟩
  go_wp2_with fail
  refine (order2_any blk n sb _ _ c d _ (HA.out.keep hb1 hlt) HN.out hn2 hc1 hlt p2 hcn (by omega)).mono ?_
  rintro e w2 ⟨rfl, hc2, hb2⟩
  go_wp2_with fail
  refine (order2_any blk n sb _ _ _ d _ (HA.out.keep (hb1.trans hb2) hlt) HN.out hn2 hc2 hlt p1 q1 (by omega)).mono ?_
  rintro e w3 ⟨rfl, hc3, hb3⟩
  go_wp2_with fail
  go_returns
  exact ⟨rfl, hc3, (hb1.trans hb2).trans hb3⟩

set_option maxHeartbeats 1000000 in
theorem medianAdjacent_any (blk n sb s a : Nat) (d : Array Int) (w : World) (hr : Row w blk d) (hn : d.size = n) (hn2 : n ≤ 1024) (hc : Cnt w sb s) (hlt : blk < sb) (ha : 1 ≤ a) (hb : a + 1 < n) (hs : s ≤ 90) :
    Calls Yba.prog 37 #[.slice (some ⟨blk, 0, none⟩) n n, .int .i64 a, .pointer (some ⟨sb, 0, none⟩)] w fun e w' => e = .returned (.int .i64 (medianAdjacent ltInt d a s).1) ∧ Cnt w' sb (medianAdjacent ltInt d a s).2 ∧ Below sb w w' := by
  obtain ⟨a, rfl⟩ : ∃ m, a = m + 1 := ⟨a - 1, by omega⟩
  go_enter Yba.func37, Yba.ntmps37
  go_wp2_with fail
  refine (median_any blk n sb s a (a + 1) (a + 1 + 1) d w hr hn hn2 hc hlt (by omega) (by omega) hb hs).mono ?_
  rintro e w1 ⟨rfl, hc1, hb1⟩
  go_wp2_with fail
  go_returns
  exact ⟨rfl, hc1, hb1⟩

theorem medianAdjacent_lt (d : Array Int) (a s n : Nat) (hb : a + 1 < n) : (medianAdjacent ltInt d a s).1 < n ∧ (medianAdjacent ltInt d a s).2 ≤ s + 3 :=
  median_lt d (a - 1) a (a + 1) s n (by omega) (by omega) hb

/-- How a hint lies in its slot. -/
def hintI : Hint → Int
  | .unknown => 0
  | .increasing => 1
  | .decreasing => 2

set_option maxHeartbeats 1000000 in
theorem choosePivot_any (blk n a b : Nat) (d : Array Int) (w : World) (hr : Row w blk d) (hn : d.size = n) (hn2 : n ≤ 1024) (hab : a < b) (hb : b ≤ n) :
    Calls Yba.prog 27 #[.slice (some ⟨blk, 0, none⟩) n n, .int .i64 a, .int .i64 b] w fun e w' => e = .returned (.tuple #[.int .i64 (choosePivot ltInt d a b).1, .int .i64 (hintI (choosePivot ltInt d a b).2)]) ∧ Below w.heap.size w w' := by
  obtain ⟨l, hl⟩ : ∃ l, l = b - a := ⟨_, rfl⟩
  have HLn : Hid (l = b - a) := hl
  have hlI : (b : Int) - a = l := by omega
  have hla : a + l ≤ n := by omega
  have HR : Hid (Row w blk d) := hr
  have HN : Hid (d.size = n) := hn
  have HLT : Hid (blk < w.heap.size) := hr.lt
  clear hl hr hn
  go_enter Yba.func27, Yba.ntmps27
  go_upto_if 32 with fail
  go_cut [10, 11, 12] (fun _ jv _ wc => ∃ (j s : Nat), jv = .int .i64 j ∧ Cnt wc w.heap.size s ∧ Below w.heap.size w wc ∧ Hid ((choosePivot ltInt d a b) = (j, if s = 0 then .increasing else if s = 12 then .decreasing else .unknown)))
  case first =>
    have HC0 : Hid (Cnt (w.alloc (.cells #[.int .i64 0] 3)) w.heap.size 0) := heap_alloc_new w _
    have HB0 : Hid (Below w.heap.size w (w.alloc (.cells #[.int .i64 0] 3))) := (Below.refl _ _).alloc (Nat.le_refl _) _
    by_cases h8 : 8 ≤ l
    · have h8' : (8 : Int) ≤ l := by omega
      by_cases h50 : 50 ≤ l
      · have h50' : (50 : Int) ≤ l := by omega
        obtain ⟨i0, hi0⟩ : ∃ i0, i0 = a + l / 4 := ⟨_, rfl⟩
        obtain ⟨j0, hj0⟩ : ∃ j0, j0 = a + l / 4 * 2 := ⟨_, rfl⟩
        obtain ⟨k0, hk0⟩ : ∃ k0, k0 = a + l / 4 * 3 := ⟨_, rfl⟩
        have e1 : (a : Int) + l / 4 = i0 := by omega
        have e2 : (a : Int) + l / 4 * 2 = j0 := by omega
        have e3 : (a : Int) + l / 4 * 3 = k0 := by omega
        have HI : Hid (i0 = a + l / 4) := hi0
        have HJ : Hid (j0 = a + l / 4 * 2) := hj0
        have HK : Hid (k0 = a + l / 4 * 3) := hk0
        rw [e1, e2, e3]
        obtain ⟨p1, p2⟩ := medianAdjacent_lt d i0 0 n (by omega)
        obtain ⟨q1, q2⟩ := medianAdjacent_lt d j0 (medianAdjacent ltInt d i0 0).2 n (by omega)
        obtain ⟨r1, r2⟩ := medianAdjacent_lt d k0 (medianAdjacent ltInt d j0 (medianAdjacent ltInt d i0 0).2).2 n (by omega)
        have bi : 1 ≤ i0 ∧ i0 + 1 < n := by omega
        have bj : 1 ≤ j0 ∧ j0 + 1 < n := by omega
        have bk : 1 ≤ k0 ∧ k0 + 1 < n := by omega
        clear hi0 hj0 hk0 e1 e2 e3
        go_wp2_with fail
        refine (medianAdjacent_any blk n w.heap.size 0 i0 d _ (HR.out.keep HB0.out HLT.out) HN.out hn2 HC0.out HLT.out bi.1 bi.2 (by omega)).mono ?_
        rintro e w1 ⟨rfl, hc1, hb1⟩
        go_wp2_with fail
        refine (medianAdjacent_any blk n w.heap.size _ j0 d _ (HR.out.keep (HB0.out.trans hb1) HLT.out) HN.out hn2 hc1 HLT.out bj.1 bj.2 (by omega)).mono ?_
        rintro e w2 ⟨rfl, hc2, hb2⟩
        go_wp2_with fail
        refine (medianAdjacent_any blk n w.heap.size _ k0 d _ (HR.out.keep ((HB0.out.trans hb1).trans hb2) HLT.out) HN.out hn2 hc2 HLT.out bk.1 bk.2 (by omega)).mono ?_
        rintro e w3 ⟨rfl, hc3, hb3⟩
        go_wp2_with fail
        refine (median_any blk n w.heap.size _ _ _ _ d _ (HR.out.keep (((HB0.out.trans hb1).trans hb2).trans hb3) HLT.out) HN.out hn2 hc3 HLT.out p1 q1 r1 (by omega)).mono ?_
        rintro e w4 ⟨rfl, hc4, hb4⟩
        go_wp2_with fail
        go_meet
        refine ⟨_, _, rfl, hc4, (((HB0.out.trans hb1).trans hb2).trans hb3).trans hb4, ?_⟩
        unfold choosePivot
        simp only [← HLn.out, Nat.mul_one, ← HI.out, ← HJ.out, ← HK.out, ge_iff_le, if_pos h8, if_pos h50]
        exact trivial
      · have h50' : ¬ (50 : Int) ≤ l := by omega
        obtain ⟨i0, hi0⟩ : ∃ i0, i0 = a + l / 4 := ⟨_, rfl⟩
        obtain ⟨j0, hj0⟩ : ∃ j0, j0 = a + l / 4 * 2 := ⟨_, rfl⟩
        obtain ⟨k0, hk0⟩ : ∃ k0, k0 = a + l / 4 * 3 := ⟨_, rfl⟩
        have e1 : (a : Int) + l / 4 = i0 := by omega
        have e2 : (a : Int) + l / 4 * 2 = j0 := by omega
        have e3 : (a : Int) + l / 4 * 3 = k0 := by omega
        have HI : Hid (i0 = a + l / 4) := hi0
        have HJ : Hid (j0 = a + l / 4 * 2) := hj0
        have HK : Hid (k0 = a + l / 4 * 3) := hk0
        have bi : i0 < n ∧ j0 < n ∧ k0 < n := by omega
        rw [e1, e2, e3]
        clear hi0 hj0 hk0 e1 e2 e3
        go_wp2_with fail
        refine (median_any blk n w.heap.size 0 i0 j0 k0 d _ (HR.out.keep HB0.out HLT.out) HN.out hn2 HC0.out HLT.out bi.1 bi.2.1 bi.2.2 (by omega)).mono ?_
        rintro e w4 ⟨rfl, hc4, hb4⟩
        go_wp2_with fail
        go_meet
        refine ⟨_, _, rfl, hc4, HB0.out.trans hb4, ?_⟩
        unfold choosePivot
        simp only [← HLn.out, Nat.mul_one, ← HI.out, ← HJ.out, ← HK.out, ge_iff_le, if_pos h8, if_neg h50]
        exact trivial
    · have h8' : ¬ (8 : Int) ≤ l := by omega
      go_wp2_with fail
      go_meet
      refine ⟨a + l / 4 * 2, 0, by go_num, HC0.out, HB0.out, ?_⟩
      unfold choosePivot
      simp only [← HLn.out, Nat.mul_one, ge_iff_le, if_neg h8]
      exact trivial
  case rest =>
    obtain ⟨j, s, rfl, hc, hbel, he⟩ := hcut
    have c1 := hc.cell
    by_cases h0 : s = 0
    · subst h0
      go_wp2_with fail
      go_returns
      rw [he.out]
      exact ⟨rfl, hbel⟩
    · by_cases h12 : s = 12
      · subst h12
        go_wp2_with fail
        go_returns
        rw [he.out]
        exact ⟨rfl, hbel⟩
      · have h0' : ¬ (s : Int) = 0 := by omega
        have h12' : ¬ (s : Int) = 12 := by omega
        go_wp2_with fail
        go_returns
        rw [he.out, if_neg h0, if_neg h12]
        exact ⟨rfl, hbel⟩
end Go.Proofs.Ybulkbaha
