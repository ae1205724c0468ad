import Derived.Test.YbulkbahaHq1
namespace Go.Proofs.Ybulkbaha
open Go.RowKit Go.Sort

/-- It returned something. -/
def Ret (e : Ending) : Prop := ∃ v, e = .returned v
/-- Bucket x is due later than bucket y. -/
def gtK (K : Nat → Int) (x y : Nat) : Bool := decide (K y < K x)

theorem siftDownG_eq (K : Nat → Int) (hi root : Nat) (d : Array Nat) : siftDown (gtK K) hi 0 root d = if 2 * root + 1 ≥ hi then d else
    if 2 * root + 2 < hi && gtK K d[2 * root + 1]! d[2 * root + 2]! then
      if !gtK K d[root]! d[2 * root + 2]! then d else siftDown (gtK K) hi 0 (2 * root + 2) (swp d root (2 * root + 2))
    else
      if !gtK K d[root]! d[2 * root + 1]! then d else siftDown (gtK K) hi 0 (2 * root + 1) (swp d root (2 * root + 1)) := by
  rw [siftDown]
  simp only [Nat.zero_add]
  by_cases h : 2 * root + 1 ≥ hi
  · simp [h]
  · simp only [h, dif_neg, not_false_eq_true, if_false]
    by_cases h2 : 2 * root + 1 + 1 < hi
    · simp [show 2 * root + 2 < hi by omega]
    · simp [show ¬ 2 * root + 2 < hi by omega]

set_option maxRecDepth 100000 in
set_option maxHeartbeats 4000000 in
theorem down_any (qb g cap n i0 hi : Nat) (K : Nat → Int) (bs : Array Nat) (w : World) (h : HQ w qb g cap K bs) (hn : bs.size = n) (hi0 : i0 < n) (hh : hi ≤ n) (hn2 : n ≤ 1024) :
    Calls Yba.prog 21 #[.iface 43 (.pointer (some ⟨qb, 0, none⟩)), .int .i64 i0, .int .i64 hi] w fun e w' => Ret e ∧ HQ w' qb g cap K (siftDown (gtK K) hi 0 i0 bs) ∧ (siftDown (gtK K) hi 0 i0 bs).size = n ∧ Fr (· = g) w w' := by
  go_enter Yba.func21, Yba.ntmps21
  go_wp2_with fail
  go_loopw [7] (fun iv wr => ∃ (r : Nat) (b1 : Array Nat), r < n ∧ iv = .int .i64 r ∧ b1.size = n ∧ HQ wr qb g cap K b1 ∧ Hid (siftDown (gtK K) hi 0 r b1 = siftDown (gtK K) hi 0 i0 bs) ∧ Fr (· = g) w wr) (fun iv _ => 1024 - (intOf iv).toNat)
  case atStart => exact ⟨i0, bs, hi0, rfl, hn, h, rfl, Fr.refl _ _⟩
  case round =>
    clear h hn
    obtain ⟨r, b1, hr1, rfl, hz, h, heq, hfr⟩ := hrel
    obtain ⟨W1, rfl⟩ : ∃ W1, W1 = wr := ⟨_, rfl⟩
    have hq := h.qcell
    rw [hz] at hq
    have HH : Hid (HQ W1 qb g cap K b1) := h
    have HF : Hid (Fr (· = g) w W1) := hfr
    have HZ : Hid (b1.size = n) := hz
    clear h hfr hz
    by_cases hlt : 2 * r + 1 ≥ hi
    · have hlt' : ¬ 2 * (r : Int) + 1 < hi := by omega
      go_wp2_with fail
      go_returns
      have h2 := heq.out
      rw [siftDownG_eq, if_pos hlt] at h2
      rw [← h2]
      exact ⟨⟨_, rfl⟩, HH.out, HZ.out, HF.out⟩
    · have hlt' : 2 * (r : Int) + 1 < hi := by omega
      go_upto_region 6 with fail
      go_cut [33] from 12 to 44 (fun bv wc => ∃ (bb : Bool) (q : Nat), bv = .bool bb ∧ wc = W1.drewN q ∧ Hid (bb = (decide (2 * r + 2 < hi) && gtK K b1[2 * r + 1]! b1[2 * r + 2]!)))
      case first =>
        by_cases h2 : 2 * r + 2 < hi
        · have h2' : 2 * (r : Int) + 1 + 1 < hi := by omega
          have H1 := qless_any qb g cap n (2 * r + 2) (2 * r + 1) K b1 W1 HH.out HZ.out (by omega) (by omega)
          have e1 : ((2 * r + 1 : Nat) : Int) = 2 * (r : Int) + 1 := by omega
          have e2 : ((2 * r + 2 : Nat) : Int) = 2 * (r : Int) + 1 + 1 := by omega
          rw [e1, e2] at H1
          clear e1 e2
          have HH1 : Hid _ := H1
          clear H1
          have hml := mLess hq
          go_wp2_with fail
          refine Calls.mono HH1.out ?_
          rintro e w2 ⟨rfl, m, rfl⟩
          go_wp2_with fail
          go_meet
          exact ⟨_, m, rfl, rfl, by rw [decide_eq_true h2, Bool.true_and]; rfl⟩
        · have h2' : decide (2 * (r : Int) + 1 + 1 < hi) = false := by simp; omega
          go_wp2_with fail
          go_meet
          exact ⟨false, 0, rfl, rfl, by rw [decide_eq_false h2, Bool.false_and]; rfl⟩
      case rest =>
        obtain ⟨bb, q, rfl, rfl, hbb⟩ := hcut
        cases bb
        · have HE : Hid ((if !gtK K b1[r]! b1[2 * r + 1]! then b1 else siftDown (gtK K) hi 0 (2 * r + 1) (swp b1 r (2 * r + 1))) = siftDown (gtK K) hi 0 i0 bs) := by
            have h2 := heq.out
            rw [siftDownG_eq, if_neg hlt, ← hbb.out] at h2
            exact h2
          clear heq hbb
          have H1 := qless_any qb g cap n (2 * r + 1) r K b1 (W1.drewN q) (HH.out.drewN q) HZ.out (by omega) (by omega)
          have e1 : ((2 * r + 1 : Nat) : Int) = 2 * (r : Int) + 1 := by omega
          rw [e1] at H1
          clear e1
          have HH1 : Hid _ := H1
          clear H1
          have hml := mLess (w := W1.drewN q) hq
          go_wp2_with fail
          refine Calls.mono HH1.out ?_
          rintro e w2 ⟨rfl, m, rfl⟩
          clear HH1 hml
          have hms := mSwap (w := W1.drewN (q + m)) hq
          have H1 := qswap_any qb g cap n r (2 * r + 1) K b1 (W1.drewN (q + m)) (HH.out.drewN (q + m)) HZ.out (by omega) (by omega)
          have e1 : ((2 * r + 1 : Nat) : Int) = 2 * (r : Int) + 1 := by omega
          rw [e1] at H1
          clear e1
          have HH1 : Hid _ := H1
          clear H1
          by_cases hl : K b1[2 * r + 1]! < K b1[r]!
          · rw [decide_eq_true hl]
            have HE2 : Hid (siftDown (gtK K) hi 0 (2 * r + 1) (swp b1 r (2 * r + 1)) = siftDown (gtK K) hi 0 i0 bs) := by
              have h2 := HE.out
              rw [show gtK K b1[r]! b1[2 * r + 1]! = true from decide_eq_true hl] at h2
              exact h2
            clear HE hl
            go_wp2_with fail
            refine Calls.mono HH1.out ?_
            rintro e w3 ⟨rfl, hq3, hf3⟩
            go_wp2_with fail
            go_roundw
            case rel => exact ⟨2 * r + 1, swp b1 r (2 * r + 1), by omega, by go_num, by rw [swp_size]; exact HZ.out, hq3, HE2, (HF.out.drewN (q + m)).trans hf3⟩
            case measure => simp [intOf] <;> omega
          · rw [decide_eq_false hl]
            have HE2 : Hid (b1 = siftDown (gtK K) hi 0 i0 bs) := by
              have h2 := HE.out
              rw [show gtK K b1[r]! b1[2 * r + 1]! = false from decide_eq_false hl] at h2
              exact h2
            clear HE hl
            go_wp2_with fail
            go_returns
            rw [← HE2.out]
            exact ⟨⟨_, rfl⟩, HH.out.drewN (q + m), HZ.out, HF.out.drewN (q + m)⟩
        · have HE : Hid ((if !gtK K b1[r]! b1[2 * r + 2]! then b1 else siftDown (gtK K) hi 0 (2 * r + 2) (swp b1 r (2 * r + 2))) = siftDown (gtK K) hi 0 i0 bs) := by
            have h2 := heq.out
            rw [siftDownG_eq, if_neg hlt, ← hbb.out] at h2
            exact h2
          have hch : 2 * r + 2 < hi := by
            have h2 := hbb.out
            simp only [Bool.true_eq, Bool.and_eq_true, decide_eq_true_eq] at h2
            exact h2.1
          clear heq hbb
          have H1 := qless_any qb g cap n (2 * r + 2) r K b1 (W1.drewN q) (HH.out.drewN q) HZ.out (by omega) (by omega)
          have e1 : ((2 * r + 2 : Nat) : Int) = 2 * (r : Int) + 1 + 1 := by omega
          rw [e1] at H1
          clear e1
          have HH1 : Hid _ := H1
          clear H1
          have hml := mLess (w := W1.drewN q) hq
          go_wp2_with fail
          refine Calls.mono HH1.out ?_
          rintro e w2 ⟨rfl, m, rfl⟩
          clear HH1 hml
          have hms := mSwap (w := W1.drewN (q + m)) hq
          have H1 := qswap_any qb g cap n r (2 * r + 2) K b1 (W1.drewN (q + m)) (HH.out.drewN (q + m)) HZ.out (by omega) (by omega)
          have e1 : ((2 * r + 2 : Nat) : Int) = 2 * (r : Int) + 1 + 1 := by omega
          rw [e1] at H1
          clear e1
          have HH1 : Hid _ := H1
          clear H1
          by_cases hl : K b1[2 * r + 2]! < K b1[r]!
          · rw [decide_eq_true hl]
            have HE2 : Hid (siftDown (gtK K) hi 0 (2 * r + 2) (swp b1 r (2 * r + 2)) = siftDown (gtK K) hi 0 i0 bs) := by
              have h2 := HE.out
              rw [show gtK K b1[r]! b1[2 * r + 2]! = true from decide_eq_true hl] at h2
              exact h2
            clear HE hl
            go_wp2_with fail
            refine Calls.mono HH1.out ?_
            rintro e w3 ⟨rfl, hq3, hf3⟩
            go_wp2_with fail
            go_roundw
            case rel => exact ⟨2 * r + 2, swp b1 r (2 * r + 2), by omega, by go_num, by rw [swp_size]; exact HZ.out, hq3, HE2, (HF.out.drewN (q + m)).trans hf3⟩
            case measure => simp [intOf] <;> omega
          · rw [decide_eq_false hl]
            have HE2 : Hid (b1 = siftDown (gtK K) hi 0 i0 bs) := by
              have h2 := HE.out
              rw [show gtK K b1[r]! b1[2 * r + 2]! = false from decide_eq_false hl] at h2
              exact h2
            clear HE hl
            go_wp2_with fail
            go_returns
            rw [← HE2.out]
            exact ⟨⟨_, rfl⟩, HH.out.drewN (q + m), HZ.out, HF.out.drewN (q + m)⟩
end Go.Proofs.Ybulkbaha
