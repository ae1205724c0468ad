import Derived.Test.YbulkbahaHq3
namespace Go.Proofs.Ybulkbaha
open Go.RowKit Go.Sort

theorem HQ.popped {w : World} {qb g cap n : Nat} {K : Nat → Int} {bs : Array Nat} (h : HQ w qb g cap K bs) (hn : bs.size = n + 1) :
    HQ ((w.setCell ⟨g, n, none⟩ (.pointer none)).setCell ⟨qb, 0, none⟩ (.slice (some ⟨g, 0, none⟩) n cap)) qb g cap K bs.pop := by
  obtain ⟨cur, h1, h2, h3⟩ := h.row
  have hz : bs.pop.size = n := by simp [hn]
  have hget : ∀ k, k < n → bs.pop[k]! = bs[k]! := fun k hk => by
    simp [hn, hk, show k < n + 1 by omega]
  have hq1 : (w.setCell ⟨g, n, none⟩ (.pointer none)).heap[qb]? = some (.cells #[.slice (some ⟨g, 0, none⟩) bs.size cap] 38 (0, 0)) := (RowKit.Below.heap_setCell w _ _ qb h.ne).trans h.q
  refine ⟨?_, by have := h.room; omega, h.most, ?_, ?_, h.ne⟩
  · have h5 := heap_setCell_same _ qb 0 _ 38 (.slice (some ⟨g, 0, none⟩) n cap) hq1
    rw [h5, hz]
    simp
  · refine ⟨cur.setIfInBounds n (.pointer none), ?_, by simp [h2], ?_⟩
    · rw [RowKit.Below.heap_setCell _ _ _ g (by simpa using h.ne.symm)]
      exact heap_setCell_same w g n cur 33 _ h1
    · intro i hi
      rw [hz] at hi
      rw [hget i hi, Array.getElem?_setIfInBounds_ne (by omega)]
      exact h3 i (by omega)
  · intro i hi
    rw [hz] at hi
    rw [hget i hi]
    obtain ⟨k1, k2, k3⟩ := h.key i (by omega)
    refine ⟨?_, k2, k3⟩
    rw [← k1]
    exact World.cell?_of_block ((RowKit.Below.heap_setCell _ _ _ _ (by simpa using k2)).trans (RowKit.Below.heap_setCell w _ _ _ (by simpa using k3)))

set_option maxHeartbeats 1000000 in
theorem qpop_any (qb g cap n : Nat) (K : Nat → Int) (bs : Array Nat) (w : World) (h : HQ w qb g cap K bs) (hn : bs.size = n + 1) (hn2 : n + 1 ≤ 1024) :
    Calls Yba.prog 11 #[.pointer (some ⟨qb, 0, none⟩)] w fun e w' => e = .returned (.iface 33 (.pointer (some ⟨bs[n]!, 0, none⟩))) ∧ HQ w' qb g cap K bs.pop ∧ Fr (fun k => k = qb ∨ k = g) w w' := by
  have hq := h.qcell
  have hqf := h.qfree
  rw [hn] at hq
  have hl := h.cell n (by omega)
  have hlf := h.free n
  have hcap : n + 1 ≤ cap := by have := h.room; omega
  have hm : cap ≤ 9223372036854775807 := by have := h.most; unfold maxLen at this; omega
  have hne := h.ne
  have HX : Hid (HQ ((w.setCell ⟨g, n, none⟩ (.pointer none)).setCell ⟨qb, 0, none⟩ (.slice (some ⟨g, 0, none⟩) n cap)) qb g cap K bs.pop) := h.popped hn
  have HF : Hid (Fr (fun k => k = qb ∨ k = g) w ((w.setCell ⟨g, n, none⟩ (.pointer none)).setCell ⟨qb, 0, none⟩ (.slice (some ⟨g, 0, none⟩) n cap))) := ((Fr.refl (fun k => k = qb ∨ k = g) w).setCell ⟨g, n, none⟩ (.inr rfl) _).setCell ⟨qb, 0, none⟩ (.inl rfl) _
  obtain ⟨x, hx⟩ : ∃ x, x = bs[n]! := ⟨_, rfl⟩
  rw [← hx] at hl ⊢
  clear hx h hn
  go_enter Yba.func11, Yba.ntmps11
  go_wp2
  go_ret
  exact ⟨rfl, HX.out, HF.out⟩

set_option maxRecDepth 100000 in
set_option maxHeartbeats 2000000 in
theorem hpush_any (qb g cap n b : Nat) (K : Nat → Int) (bs : Array Nat) (w : World) (h : HQ w qb g cap K bs) (hn : bs.size = n) (hn2 : n + 1 ≤ 1024)
    (hb : w.cell? ⟨b, 3, none⟩ = some (.int .u64 (K b))) (hb1 : b ≠ qb) (hb2 : b ≠ g) :
    Calls Yba.prog 12 #[.iface 43 (.pointer (some ⟨qb, 0, none⟩)), .iface 33 (.pointer (some ⟨b, 0, none⟩))] w fun e w' => e = .returned (.tuple #[]) ∧ ∃ g' cap', HQ w' qb g' cap' K (upLoop K n (bs.push b)) ∧ (upLoop K n (bs.push b)).size = n + 1 ∧ Fr (fun k => k = qb ∨ k = g ∨ w.heap.size ≤ k) w w' ∧ (g' = g ∨ w.heap.size ≤ g') := by
  have H1 : Hid _ := qpush_any qb g cap n b K bs w h hn (by omega) hb hb1 hb2
  clear h hb
  go_enter Yba.func12, Yba.ntmps12
  go_wp2_with fail
  refine Calls.mono H1.out ?_
  rintro e w1 ⟨rfl, g', cap', hq1, hf1, hg'⟩
  clear H1
  have hz : (bs.push b).size = n + 1 := by simp [hn]
  have hqc := hq1.qcell
  rw [hz] at hqc
  have hml := mLen hqc
  have H2 : Hid _ := up_any qb g' cap' (n + 1) n K (bs.push b) w1 hq1 hz (by omega) (by omega)
  have HF1 : Hid (Fr (fun k => k = qb ∨ k = g) w w1) := hf1
  clear hq1 hz hqc hf1
  go_wp2_with fail
  refine (qlen_any _ _ _ _).mono ?_
  rintro e w2 ⟨rfl, rfl⟩
  go_wp2_with fail
  refine Calls.mono H2.out ?_
  rintro e w3 ⟨rfl, hq3, hz3, hf3⟩
  go_wp2_with fail
  go_returns
  refine ⟨rfl, g', cap', hq3, hz3, (HF1.out.mono (fun k hk => by omega)).trans (hf3.mono (fun k hk => by omega)), hg'⟩

set_option maxRecDepth 100000 in
set_option maxHeartbeats 2000000 in
theorem hpop_any (qb g cap n : Nat) (K : Nat → Int) (bs : Array Nat) (w : World) (h : HQ w qb g cap K bs) (hn : bs.size = n + 1) (hn2 : n + 1 ≤ 1024) :
    Calls Yba.prog 14 #[.iface 43 (.pointer (some ⟨qb, 0, none⟩))] w fun e w' => e = .returned (.iface 33 (.pointer (some ⟨(siftDown (gtK K) n 0 0 (swp bs 0 n))[n]!, 0, none⟩))) ∧ HQ w' qb g cap K (siftDown (gtK K) n 0 0 (swp bs 0 n)).pop ∧ (siftDown (gtK K) n 0 0 (swp bs 0 n)).size = n + 1 ∧ Fr (fun k => k = qb ∨ k = g) w w' := by
  obtain ⟨b2, hb2⟩ : ∃ b2, b2 = siftDown (gtK K) n 0 0 (swp bs 0 n) := ⟨_, rfl⟩
  rw [← hb2]
  have HB2 : Hid (b2 = siftDown (gtK K) n 0 0 (swp bs 0 n)) := hb2
  clear hb2
  have hq := h.qcell
  rw [hn] at hq
  have hml := mLen hq
  have hms := mSwap hq
  have H1 : Hid _ := qswap_any qb g cap (n + 1) 0 n K bs w h hn (by omega) (by omega)
  clear h hq
  go_enter Yba.func14, Yba.ntmps14
  go_wp2_with fail
  refine (qlen_any _ _ _ _).mono ?_
  rintro e w2 ⟨rfl, rfl⟩
  go_wp2_with fail
  refine Calls.mono H1.out ?_
  rintro e w3 ⟨rfl, hq3, hf3⟩
  have hz3 : (swp bs 0 n).size = n + 1 := by rw [swp_size]; exact hn
  have H2 : Hid _ := down_any qb g cap (n + 1) 0 n K (swp bs 0 n) w3 hq3 hz3 (by omega) (by omega) hn2
  have HF3 : Hid (Fr (· = g) w2 w3) := hf3
  clear H1 hml hms hq3 hf3 hz3
  go_wp2_with fail
  refine Calls.mono H2.out ?_
  rintro e w4 ⟨⟨v, rfl⟩, hq4, hz4, hf4⟩
  rw [← HB2.out] at hq4 hz4
  have H3 : Hid _ := qpop_any qb g cap n K b2 w4 hq4 hz4 hn2
  have HF4 : Hid (Fr (· = g) w3 w4) := hf4
  have HZ4 : Hid (b2.size = n + 1) := hz4
  clear H2 hq4 hf4 HB2 hz4
  go_wp2_with fail
  refine Calls.mono H3.out ?_
  rintro e w5 ⟨rfl, hq5, hf5⟩
  go_wp2_with fail
  go_returns
  exact ⟨rfl, hq5, HZ4.out, ((HF3.out.mono (fun k hk => .inr hk)).trans (HF4.out.mono (fun k hk => .inr hk))).trans hf5⟩
end Go.Proofs.Ybulkbaha
