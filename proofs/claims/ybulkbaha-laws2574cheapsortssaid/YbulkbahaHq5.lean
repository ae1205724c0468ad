import Derived.Test.YbulkbahaHq4
namespace Go.Proofs.Ybulkbaha
open Go.RowKit Go.Sort

theorem swo_gtK (K : Nat → Int) : SWO (gtK K) where
  irrefl x := by simp [gtK]
  trans x y z h1 h2 := by simp only [gtK, decide_eq_true_eq] at h1 h2 ⊢; omega
  ntrans x y z h1 h2 := by simp only [gtK, decide_eq_false_iff_not] at h1 h2 ⊢; omega

/-- The first m are a heap: no one is due before its parent. -/
def PH (K : Nat → Int) (m : Nat) (d : Array Nat) : Prop := ∀ k, 0 < k → k < m → K d[(k - 1) / 2]! ≤ K d[k]!

theorem PH.ok {K : Nat → Int} {m : Nat} {d : Array Nat} (h : PH K m d) : ∀ i, i < m → Ok (gtK K) 0 m d i := by
  intro i _ k hk hkm
  have := h k (by omega) hkm
  rw [show (k - 1) / 2 = i by omega] at this
  simp only [gtK, Nat.zero_add, decide_eq_false_iff_not]
  omega
theorem PH.ofOk {K : Nat → Int} {m : Nat} {d : Array Nat} (h : ∀ i, i < m → Ok (gtK K) 0 m d i) : PH K m d := by
  intro k hk hkm
  have := h ((k - 1) / 2) (by omega) k (by omega) hkm
  simp only [gtK, Nat.zero_add, decide_eq_false_iff_not] at this
  omega

theorem swp_perm {d : Array Nat} {i j : Nat} (hi : i < d.size) (hj : j < d.size) : (swp d i j).toList.Perm d.toList := by
  have h := (swp_permIn d 0 d.size i j (Nat.zero_le _) (by omega) (Nat.zero_le _) (by omega) (Nat.le_refl _)).2.2
  have e : (swp d i j).extract 0 d.size = swp d i j := by
    have := Array.extract_size (xs := swp d i j)
    rw [swp_size] at this
    exact this
  rw [e, Array.extract_size] at h
  exact h

theorem up_heap (K : Nat → Int) (m : Nat) : ∀ (j : Nat) (d : Array Nat), d.size = m → j < m →
    (∀ k, 0 < k → k < m → k ≠ j → K d[(k - 1) / 2]! ≤ K d[k]!) → (∀ k, 0 < k → k < m → (k - 1) / 2 = j → 0 < j → K d[(j - 1) / 2]! ≤ K d[k]!) →
    PH K m (upLoop K j d) ∧ (upLoop K j d).toList.Perm d.toList := by
  intro j
  induction j using Nat.strongRecOn with
  | ind j ih =>
    intro d hz hj h1 h2
    rw [upLoop_eq]
    by_cases h0 : j = 0
    · rw [if_pos h0]
      exact ⟨fun k hk hkm => h1 k hk hkm (by omega), List.Perm.refl _⟩
    · rw [if_neg h0]
      by_cases hl : K d[j]! < K d[(j - 1) / 2]!
      · rw [decide_eq_true hl]
        simp only [Bool.not_true, Bool.false_eq_true, if_false]
        obtain ⟨p, hp⟩ : ∃ p, p = (j - 1) / 2 := ⟨_, rfl⟩
        rw [← hp] at hl ⊢
        have hpj : p < j := by omega
        have gP : (swp d p j)[p]! = d[j]! := swp_left d p j (by omega) (by omega)
        have gJ : (swp d p j)[j]! = d[p]! := swp_right d p j (by omega)
        have gO : ∀ k, k ≠ p → k ≠ j → (swp d p j)[k]! = d[k]! := fun k a b => swp_other d p j k a b
        have r := ih p hpj (swp d p j) (by rw [swp_size]; exact hz) (by omega) (by
          intro k hk hkm hkp
          by_cases e1 : k = j
          · subst e1
            rw [← hp, gP, gJ]
            omega
          · rw [gO k hkp e1]
            by_cases e2 : (k - 1) / 2 = j
            · rw [e2, gJ]
              have := h2 k hk hkm e2 (by omega)
              rw [← hp] at this
              exact this
            · by_cases e3 : (k - 1) / 2 = p
              · rw [e3, gP]
                have := h1 k hk hkm e1
                rw [e3] at this
                omega
              · rw [gO _ e3 e2]
                exact h1 k hk hkm e1) (by
          intro k hk hkm hkp hp0
          rw [gO ((p - 1) / 2) (by omega) (by omega)]
          have hpp := h1 p hp0 (by omega) (by omega)
          by_cases e1 : k = j
          · subst e1
            rw [gJ]
            exact hpp
          · rw [gO k (by omega) e1]
            have := h1 k hk hkm e1
            rw [hkp] at this
            omega)
        exact ⟨r.1, r.2.trans (swp_perm (by omega) (by omega))⟩
      · rw [decide_eq_false hl]
        simp only [Bool.not_false, if_true]
        refine ⟨fun k hk hkm => ?_, List.Perm.refl _⟩
        by_cases e1 : k = j
        · subst e1
          omega
        · exact h1 k hk hkm e1

theorem push_heap (K : Nat → Int) (n b : Nat) (bs : Array Nat) (hn : bs.size = n) (h : PH K n bs) : PH K (n + 1) (upLoop K n (bs.push b)) ∧ (upLoop K n (bs.push b)).toList.Perm (bs.toList ++ [b]) := by
  have r := up_heap K (n + 1) n (bs.push b) (by simp [hn]) (by omega) (by
    intro k hk hkm hkn
    rw [getPush bs b k (by omega), if_pos (by omega), getPush bs b _ (by omega), if_pos (by omega)]
    exact h k hk (by omega)) (by intro k hk hkm hkn h0; omega)
  refine ⟨r.1, ?_⟩
  have := r.2
  rwa [Array.toList_push] at this

theorem pop_heap (K : Nat → Int) (n : Nat) (d : Array Nat) (hn : d.size = n + 1) (h : PH K (n + 1) d) :
    PH K n (siftDown (gtK K) n 0 0 (swp d 0 n)).pop ∧ (siftDown (gtK K) n 0 0 (swp d 0 n))[n]! = d[0]! ∧ ((siftDown (gtK K) n 0 0 (swp d 0 n)).pop.toList ++ [d[0]!]).Perm d.toList ∧ (∀ i, i < n + 1 → K d[0]! ≤ K d[i]!) := by
  have hz1 : (swp d 0 n).size = n + 1 := by rw [swp_size]; exact hn
  have gO : ∀ k, k ≠ 0 → k ≠ n → (swp d 0 n)[k]! = d[k]! := fun k a b => swp_other d 0 n k a b
  obtain ⟨R1, R2⟩ := sift (swo_gtK K) n 0 0 n 0 (swp d 0 n) (by omega) (by omega) (Nat.le_refl _)
    (fun i _ h2 h3 kk hkk hkkh => by
      rw [Nat.zero_add, Nat.zero_add, gO i h3 (by omega), gO kk (by omega) (by omega)]
      have := h.ok i (by omega) kk hkk (by omega)
      rwa [Nat.zero_add, Nat.zero_add] at this)
    (fun p _ hp => by omega)
  rw [Nat.zero_add] at R2
  obtain ⟨d2, hd2⟩ : ∃ d2, d2 = siftDown (gtK K) n 0 0 (swp d 0 n) := ⟨_, rfl⟩
  rw [← hd2] at R1 R2 ⊢
  have hz2 : d2.size = n + 1 := R2.1.trans hz1
  have hlast : d2[n]! = d[0]! := by rw [R2.2.1 n (.inr (Nat.le_refl _)), swp_right d 0 n (by omega)]
  have hget : ∀ k, k < n → d2.pop[k]! = d2[k]! := fun k hk => by simp [hz2, hk, show k < n + 1 by omega]
  have hperm : d2.toList.Perm d.toList := by
    have h5 := (permIn_mono _ _ 0 n 0 (n + 1) (Nat.le_refl _) (by omega) (by omega) R2).2.2
    have e1 : d2.extract 0 (n + 1) = d2 := by rw [← hz2]; exact Array.extract_size
    have e2 : (swp d 0 n).extract 0 (n + 1) = swp d 0 n := by rw [← hz1]; exact Array.extract_size
    rw [e1, e2] at h5
    exact h5.trans (swp_perm (by omega) (by omega))
  have hsplit : d2.pop.toList ++ [d[0]!] = d2.toList := by
    rw [← hlast]
    have hne : d2.toList ≠ [] := by intro e; have h6 := congrArg List.length e; rw [Array.length_toList, hz2] at h6; simp at h6
    have e3 := List.dropLast_concat_getLast hne
    rw [List.getLast_eq_getElem] at e3
    rw [Array.toList_pop]
    rw [show d2[n]! = d2.toList[d2.toList.length - 1]'(by simp; omega) by simp [hz2]]
    exact e3
  refine ⟨?_, hlast, by rw [hsplit]; exact hperm, ?_⟩
  · intro k hk hkn
    rw [hget k hkn, hget _ (by omega)]
    exact PH.ofOk (fun i hi => R1 i (Nat.zero_le _) hi) k hk hkn
  · intro i hi
    have := root_max (swo_gtK K) h.ok i i (Nat.le_refl _) hi
    simp only [gtK, Nat.zero_add, decide_eq_false_iff_not] at this
    omega
end Go.Proofs.Ybulkbaha
