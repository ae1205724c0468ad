import Derived.Test.YbulkbahaSrt0
namespace Go.Proofs.Ybulkbaha
open Go.RowKit Go.Sort

theorem scanSorted_stop (d : Array Int) (b i : Nat) (h : (decide (i + 1 < b) && !ltInt d[i + 1]! d[i]!) = false) : scanSorted ltInt d b (i + 1) = i + 1 := by
  rw [scanSorted, Nat.add_sub_cancel, h]; rfl
theorem scanSorted_step (d : Array Int) (b i : Nat) (h : (decide (i + 1 < b) && !ltInt d[i + 1]! d[i]!) = true) : scanSorted ltInt d b (i + 1) = scanSorted ltInt d b (i + 1 + 1) := by
  rw [scanSorted, Nat.add_sub_cancel, h]; rfl
theorem shiftUp_eq (b j : Nat) (d : Array Int) : shiftUp ltInt b (j + 1) d = if j + 1 < b then (if !ltInt d[j + 1]! d[j]! then d else shiftUp ltInt b (j + 1 + 1) (swp d (j + 1) j)) else d := by
  rw [shiftUp, Nat.add_sub_cancel]
theorem partialIns_eq (a b s i k : Nat) (d : Array Int) (h : k + 1 = scanSorted ltInt d b i) : partialIns ltInt a b (s + 1) i d =
    if k + 1 = b then (d, true) else if b - a < 50 then (d, false) else partialIns ltInt a b s (k + 1) (if b - (k + 1) ≥ 2 then shiftUp ltInt b (k + 1 + 1) (if k + 1 - a ≥ 2 then shiftDown ltInt k (swp d (k + 1) k) else swp d (k + 1) k) else (if k + 1 - a ≥ 2 then shiftDown ltInt k (swp d (k + 1) k) else swp d (k + 1) k)) := by
  rw [partialIns]
  simp only [← h, Nat.add_sub_cancel]
theorem size_shiftDown : ∀ (j : Nat) (d : Array Int), (shiftDown ltInt j d).size = d.size := by
  intro j
  induction j with
  | zero => intro d; rfl
  | succ j ih => intro d; unfold shiftDown; split <;> simp [ih, size_swp]
set_option maxRecDepth 100000 in
set_option maxHeartbeats 4000000 in
theorem partialInsertionSort_any (blk n a b : Nat) (d : Array Int) (w : World) (hr : Row w blk d) (hn : d.size = n) (hn2 : n ≤ 1024) (hab : a < b) (hb : b ≤ n) :
    Calls Yba.prog 29 #[.slice (some ⟨blk, 0, none⟩) n n, .int .i64 a, .int .i64 b] w fun e w' => e = .returned (.bool (partialInsertionSort ltInt d a b).2) ∧ Row w' blk (partialInsertionSort ltInt d a b).1 ∧ Below blk w w' := by
  go_enter Yba.func29, Yba.ntmps29
  go_wp2_with fail
  go_loopw [7, 8] (fun iv jv wr => ∃ (i s : Nat) (d1 : Array Int), a ≤ i ∧ i + 1 ≤ b ∧ s ≤ 5 ∧ iv = .int .i64 ((i + 1 : Nat) : Int) ∧ jv = .int .i64 (5 - (s : Int)) ∧ d1.size = n ∧ Row wr blk d1 ∧ Hid (partialIns ltInt a b s (i + 1) d1 = partialInsertionSort ltInt d a b) ∧ Below blk w wr) (fun _ jv _ => (5 - intOf jv).toNat)
  case atStart => exact ⟨a, 5, d, by omega, by omega, by omega, by go_num, rfl, hn, hr, rfl, Below.refl _ _⟩
  case round =>
    clear hr hn
    obtain ⟨i, s, D1, hi, hib, hs5, rfl, rfl, hs, hr, hpi, hbel⟩ := hrel
    obtain ⟨W1, rfl⟩ : ∃ W1, W1 = wr := ⟨_, rfl⟩
    have HR : Hid (Row W1 blk D1) := hr
    have HS : Hid (D1.size = n) := hs
    clear hr hs
    by_cases hs0 : s = 0
    · subst hs0
      go_wp2_with fail
      go_ret
      rw [← hpi.out]
      exact ⟨rfl, HR.out, hbel⟩
    · obtain ⟨s, rfl⟩ : ∃ m, s = m + 1 := ⟨s - 1, by omega⟩
      have hs0' : (5 : Int) - ((s + 1 : Nat) : Int) < 5 := by omega
      clear hs0
      go_wp2_with fail
      go_loopw [7] (fun iv wr => ∃ k q : Nat, i ≤ k ∧ k + 1 ≤ b ∧ iv = .int .i64 ((k + 1 : Nat) : Int) ∧ wr = W1.drewN q ∧ Hid (scanSorted ltInt D1 b (k + 1) = scanSorted ltInt D1 b (i + 1))) (fun iv _ => b + 1 - (intOf iv).toNat)
      case atStart => exact ⟨i, 0, Nat.le_refl _, by omega, rfl, rfl, rfl⟩
      case round =>
        obtain ⟨k, q, hk, hkb, rfl, rfl, hsc⟩ := hrel
        go_upto_region 5 with fail
        go_cut [32] from 17 to 34 (fun bv wc => ∃ (bb : Bool) (q' : Nat), bv = .bool bb ∧ wc = W1.drewN q' ∧ Hid (bb = (decide (k + 1 < b) && !ltInt D1[k + 1]! D1[k]!)))
        case first =>
          by_cases h2 : k + 1 < b
          · have h2' : (k : Int) + 1 < b := by omega
            have c1 := HR.out.cell (k + 1) (by have := HS.out; omega)
            have c2 := HR.out.cell k (by have := HS.out; omega)
            obtain ⟨x, hx⟩ : ∃ x, x = D1[k + 1]! := ⟨_, rfl⟩
            obtain ⟨y, hy⟩ : ∃ y, y = D1[k]! := ⟨_, rfl⟩
            rw [← hx] at c1
            rw [← hy] at c2
            have HX : Hid (x = D1[k + 1]!) := hx
            have HY : Hid (y = D1[k]!) := hy
            have g1 : (k : Int) + 1 < n := by omega
            have g2 : (k : Int) < n := by omega
            clear hx hy
            go_quiet ((go_at_call 30; first | exact Calls.quiet_of_same (less_any _ _ _) | exact less_drew _ _ _ _ _))
            go_wp2_with fail
            go_meet
            exact ⟨_, _, rfl, World.drewN_drewN .., by rw [← HX.out, ← HY.out, decide_eq_true h2, Bool.true_and]; rfl⟩
          · have h2' : decide ((k : Int) + 1 < b) = false := by simp; omega
            go_quiet (fail)
            go_wp2_with fail
            go_meet
            exact ⟨false, _, rfl, World.drewN_drewN .., by rw [decide_eq_false h2, Bool.false_and]; rfl⟩
        case rest =>
          obtain ⟨bb, q', rfl, rfl, hbb⟩ := hcut
          cases bb
          · have HK : Hid (k + 1 = scanSorted ltInt D1 b (i + 1)) := by
              have h := hsc.out
              rw [scanSorted_stop D1 b k hbb.out.symm] at h
              exact h
            clear hsc hbb
            have HPE : Hid (partialInsertionSort ltInt d a b = _) := hpi.out.symm.trans (partialIns_eq a b s (i + 1) k D1 HK.out)
            clear hpi
            by_cases hkb2 : k + 1 = b
            · have hkb2' : (k : Int) + 1 = b := by omega
              go_wp2_with fail
              go_ret
              have h := HPE.out
              rw [if_pos hkb2] at h
              rw [h]
              exact ⟨rfl, HR.out, belN hbel _⟩
            · have hkb2' : ¬ (k : Int) + 1 = b := by omega
              by_cases h50 : b - a < 50
              · have h50' : (b : Int) - a < 50 := by omega
                go_wp2_with fail
                go_ret
                have h := HPE.out
                rw [if_neg hkb2, if_pos h50] at h
                rw [h]
                exact ⟨rfl, HR.out, belN hbel _⟩
              · have h50' : ¬ (b : Int) - a < 50 := by omega
                have HPF : Hid (partialInsertionSort ltInt d a b = _) := HPE.out.trans ((if_neg hkb2).trans (if_neg h50))
                clear HPE
                go_upto_region 11 with fail
                go_cut [] from 13 to 132 (fun wc => Row wc blk (swp D1 (k + 1) k) ∧ Below blk w wc)
                case first =>
                  have c1 := HR.out.cell (k + 1) (by have := HS.out; omega)
                  have c2 := HR.out.cell k (by have := HS.out; omega)
                  have f1 := HR.out.free (k + 1)
                  have f2 := HR.out.free k
                  obtain ⟨x, hx⟩ : ∃ x, x = D1[k + 1]! := ⟨_, rfl⟩
                  obtain ⟨y, hy⟩ : ∃ y, y = D1[k]! := ⟨_, rfl⟩
                  have hsw := HR.out.swap (k + 1) k
                  rw [← hx] at c1
                  rw [← hy] at c2
                  rw [← hx, ← hy] at hsw
                  have HSW : Hid (Row ((W1.setCell ⟨blk, k + 1, none⟩ (.int .u64 y)).setCell ⟨blk, k, none⟩ (.int .u64 x)) blk (swp D1 (k + 1) k)) := hsw
                  have HBL : Hid (Below blk w ((W1.setCell ⟨blk, k + 1, none⟩ (.int .u64 y)).setCell ⟨blk, k, none⟩ (.int .u64 x))) := (hbel.setCell (Nat.le_refl _) _).setCell (Nat.le_refl _) _
                  have HX : Hid (x = D1[k + 1]!) := hx
                  have HY : Hid (y = D1[k]!) := hy
                  have g1 : (k : Int) + 1 < n := by have := HS.out; omega
                  have g2 : (k : Int) < n := by have := HS.out; omega
                  clear hx hy hsw
                  go_region
                  go_wp2_with fail
                  go_meet
                  exact ⟨HSW.out, ⟨HBL.out.os, HBL.out.tape, HBL.out.output, HBL.out.size, HBL.out.block⟩⟩
                case rest =>
                  obtain ⟨hr1, hb1⟩ := hcut
                  obtain ⟨W2, rfl⟩ : ∃ W2, W2 = wc := ⟨_, rfl⟩
                  obtain ⟨D2, hD2⟩ : ∃ D2, D2 = swp D1 (k + 1) k := ⟨_, rfl⟩
                  have hz1 : D2.size = n := by rw [hD2]; rw [size_swp]; exact HS.out
                  rw [← hD2] at hr1
                  have HD2 : Hid (D2 = swp D1 (k + 1) k) := hD2
                  clear HR HS hD2 hbel
                  have HR : Hid (Row W2 blk D2) := hr1
                  have HS : Hid (D2.size = n) := hz1
                  have hbel : Below blk w W2 := hb1
                  clear hr1 hb1 hz1

                  go_upto_if 61 with fail
                  go_cut [9] from 13 to 132 (fun _ wc => Row wc blk (if k + 1 - a ≥ 2 then shiftDown ltInt k D2 else D2) ∧ Below blk w wc)
                  case first =>
                    by_cases h2 : k + 1 - a ≥ 2
                    · have h2' : (2 : Int) ≤ (k : Int) + 1 - a := by omega
                      go_wp2_with fail
                      go_loopw [9] (fun jv wr => ∃ (j : Nat) (d5 : Array Int), j ≤ k ∧ jv = .int .i64 j ∧ d5.size = n ∧ Row wr blk d5 ∧ Hid (shiftDown ltInt j d5 = shiftDown ltInt k D2) ∧ Below blk w wr) (fun jv _ => (intOf jv).toNat)
                      case atStart => exact ⟨k, D2, Nat.le_refl _, by go_num, HS.out, HR.out, rfl, hbel⟩
                      case round =>
                        clear HR HS hbel
                        obtain ⟨j, D5, hj, rfl, hs, hr, hsd, hbel⟩ := hrel
                        obtain ⟨W5, rfl⟩ : ∃ W5, W5 = wr := ⟨_, rfl⟩
                        have HR : Hid (Row W5 blk D5) := hr
                        have HS : Hid (D5.size = n) := hs
                        clear hr hs
                        by_cases hj0 : j = 0
                        · subst hj0
                          go_wp2_with fail
                          go_meet
                          rw [if_pos h2, ← hsd.out]
                          exact ⟨HR.out, hbel⟩
                        · obtain ⟨j, rfl⟩ : ∃ m, j = m + 1 := ⟨j - 1, by omega⟩
                          have hj0' : (1 : Int) ≤ (j : Int) + 1 := by omega
                          clear hj0
                          have c1 := HR.out.cell (j + 1) (by have := HS.out; omega)
                          have c2 := HR.out.cell j (by have := HS.out; omega)
                          have f1 := HR.out.free (j + 1)
                          have f2 := HR.out.free j
                          obtain ⟨x, hx⟩ : ∃ x, x = D5[j + 1]! := ⟨_, rfl⟩
                          obtain ⟨y, hy⟩ : ∃ y, y = D5[j]! := ⟨_, rfl⟩
                          have hsw := HR.out.swap (j + 1) j
                          rw [← hx] at c1
                          rw [← hy] at c2
                          rw [← hx, ← hy] at hsw
                          have HSW : Hid (Row ((W5.setCell ⟨blk, j + 1, none⟩ (.int .u64 y)).setCell ⟨blk, j, none⟩ (.int .u64 x)) blk (swp D5 (j + 1) j)) := hsw
                          have HBL : Hid (Below blk w ((W5.setCell ⟨blk, j + 1, none⟩ (.int .u64 y)).setCell ⟨blk, j, none⟩ (.int .u64 x))) := (hbel.setCell (Nat.le_refl _) _).setCell (Nat.le_refl _) _
                          have HX : Hid (x = D5[j + 1]!) := hx
                          have HY : Hid (y = D5[j]!) := hy
                          have g1 : (j : Int) + 1 < n := by have := HS.out; omega
                          have g2 : (j : Int) < n := by have := HS.out; omega
                          clear hx hy hsw
                          by_cases hl : ltInt x y = true
                          · go_wp2_with fail
                            go_quiet ((go_at_call 30; first | exact Calls.quiet_of_same (less_any _ _ _) | exact less_drew _ _ _ _ _))
                            go_wp2_with fail
                            go_region
                            go_wp2_with fail
                            go_roundw
                            case rel =>
                              have r5 : Hid (shiftDown ltInt j (swp D5 (j + 1) j) = shiftDown ltInt k D2) := by
                                have h := hsd.out
                                rw [shiftDown, ← HX.out, ← HY.out, hl, if_neg (by simp)] at h
                                exact h
                              have r4 : (swp D5 (j + 1) j).size = n := by rw [size_swp]; exact HS.out
                              first
                                | exact ⟨j, swp D5 (j + 1) j, by omega, by go_num, r4, HSW.out, r5, ⟨HBL.out.os, HBL.out.tape, HBL.out.output, HBL.out.size, HBL.out.block⟩⟩
                                | (repeat apply Exists.intro; exact ⟨⟨j, swp D5 (j + 1) j, by omega, by go_num, r4, HSW.out, r5, ⟨HBL.out.os, HBL.out.tape, HBL.out.output, HBL.out.size, HBL.out.block⟩⟩, rfl⟩)
                            case measure => simp [intOf] <;> omega
                          · have hl' : ltInt x y = false := by simpa using hl
                            clear hl
                            go_wp2_with fail
                            go_quiet ((go_at_call 30; first | exact Calls.quiet_of_same (less_any _ _ _) | exact less_drew _ _ _ _ _))
                            go_wp2_with fail
                            go_meet
                            have h := hsd.out
                            rw [shiftDown, ← HX.out, ← HY.out, hl', if_pos (by simp)] at h
                            rw [if_pos h2, ← h]
                            exact ⟨HR.out, belN hbel _⟩
                    · have h2' : ¬ (2 : Int) ≤ (k : Int) + 1 - a := by omega
                      go_wp2_with fail
                      go_meet
                      rw [if_neg h2]
                      exact ⟨HR.out, hbel⟩
                  case rest =>
                    obtain ⟨hr1, hb1⟩ := hcut
                    obtain ⟨W3, rfl⟩ : ∃ W3, W3 = wc := ⟨_, rfl⟩
                    obtain ⟨D3, hD3⟩ : ∃ D3, D3 = (if k + 1 - a ≥ 2 then shiftDown ltInt k D2 else D2) := ⟨_, rfl⟩
                    have hz1 : D3.size = n := by rw [hD3]; split <;> simp [size_shiftDown, HS.out]
                    rw [← hD3] at hr1
                    have HD3 : Hid (D3 = (if k + 1 - a ≥ 2 then shiftDown ltInt k D2 else D2)) := hD3
                    clear HR HS hD3 hbel
                    have HR : Hid (Row W3 blk D3) := hr1
                    have HS : Hid (D3.size = n) := hz1
                    have hbel : Below blk w W3 := hb1
                    clear hr1 hb1 hz1

                    by_cases h2 : b - (k + 1) ≥ 2
                    · have h2' : (2 : Int) ≤ (b : Int) - ((k : Int) + 1) := by omega
                      go_wp2_with fail
                      go_loopw [10] (fun jv wr => ∃ (j : Nat) (d5 : Array Int), k + 1 ≤ j ∧ j + 1 ≤ b ∧ jv = .int .i64 ((j + 1 : Nat) : Int) ∧ d5.size = n ∧ Row wr blk d5 ∧ Hid (shiftUp ltInt b (j + 1) d5 = shiftUp ltInt b (k + 1 + 1) D3) ∧ Below blk w wr) (fun jv _ => b + 1 - (intOf jv).toNat)
                      case atStart => exact ⟨k + 1, D3, Nat.le_refl _, by omega, by go_num, HS.out, HR.out, rfl, hbel⟩
                      case round =>
                        clear HR HS hbel
                        obtain ⟨j, D5, hj, hjb, rfl, hs, hr, hsd, hbel⟩ := hrel
                        obtain ⟨W5, rfl⟩ : ∃ W5, W5 = wr := ⟨_, rfl⟩
                        have HR : Hid (Row W5 blk D5) := hr
                        have HS : Hid (D5.size = n) := hs
                        clear hr hs
                        by_cases hj0 : j + 1 < b
                        · have hj0' : (j : Int) + 1 < b := by omega
                          have c1 := HR.out.cell (j + 1) (by have := HS.out; omega)
                          have c2 := HR.out.cell j (by have := HS.out; omega)
                          have f1 := HR.out.free (j + 1)
                          have f2 := HR.out.free j
                          obtain ⟨x, hx⟩ : ∃ x, x = D5[j + 1]! := ⟨_, rfl⟩
                          obtain ⟨y, hy⟩ : ∃ y, y = D5[j]! := ⟨_, rfl⟩
                          have hsw := HR.out.swap (j + 1) j
                          rw [← hx] at c1
                          rw [← hy] at c2
                          rw [← hx, ← hy] at hsw
                          have HSW : Hid (Row ((W5.setCell ⟨blk, j + 1, none⟩ (.int .u64 y)).setCell ⟨blk, j, none⟩ (.int .u64 x)) blk (swp D5 (j + 1) j)) := hsw
                          have HBL : Hid (Below blk w ((W5.setCell ⟨blk, j + 1, none⟩ (.int .u64 y)).setCell ⟨blk, j, none⟩ (.int .u64 x))) := (hbel.setCell (Nat.le_refl _) _).setCell (Nat.le_refl _) _
                          have HX : Hid (x = D5[j + 1]!) := hx
                          have HY : Hid (y = D5[j]!) := hy
                          have g1 : (j : Int) + 1 < n := by have := HS.out; omega
                          have g2 : (j : Int) < n := by have := HS.out; omega
                          clear hx hy hsw
                          by_cases hl : ltInt x y = true
                          · go_wp2_with fail
                            go_quiet ((go_at_call 30; first | exact Calls.quiet_of_same (less_any _ _ _) | exact less_drew _ _ _ _ _))
                            go_wp2_with fail
                            go_region
                            go_wp2_with fail
                            go_roundw
                            case rel =>
                              have r5 : Hid (shiftUp ltInt b (j + 1 + 1) (swp D5 (j + 1) j) = shiftUp ltInt b (k + 1 + 1) D3) := by
                                have h := hsd.out
                                rw [shiftUp_eq, if_pos hj0, ← HX.out, ← HY.out, hl, if_neg (by simp)] at h
                                exact h
                              have r4 : (swp D5 (j + 1) j).size = n := by rw [size_swp]; exact HS.out
                              first
                                | exact ⟨j + 1, swp D5 (j + 1) j, by omega, by omega, by go_num, r4, HSW.out, r5, ⟨HBL.out.os, HBL.out.tape, HBL.out.output, HBL.out.size, HBL.out.block⟩⟩
                                | (repeat apply Exists.intro; exact ⟨⟨j + 1, swp D5 (j + 1) j, by omega, by omega, by go_num, r4, HSW.out, r5, ⟨HBL.out.os, HBL.out.tape, HBL.out.output, HBL.out.size, HBL.out.block⟩⟩, rfl⟩)
                            case measure => simp [intOf] <;> omega
                          · have hl' : ltInt x y = false := by simpa using hl
                            clear hl
                            go_wp2_with fail
                            go_quiet ((go_at_call 30; first | exact Calls.quiet_of_same (less_any _ _ _) | exact less_drew _ _ _ _ _))
                            go_wp2_with fail
                            have hpl : Hid (partialIns ltInt a b s (k + 1) D5 = partialInsertionSort ltInt d a b) := by
                              have e : D5 = (if b - (k + 1) ≥ 2 then shiftUp ltInt b (k + 1 + 1) D3 else D3) := by
                                have h := hsd.out
                                rw [shiftUp_eq, if_pos hj0, ← HX.out, ← HY.out, hl', if_pos (by simp)] at h
                                rw [if_pos h2, ← h]
                              rw [e, HD3.out, HD2.out]
                              exact HPF.out.symm
                            go_roundw
                            case rel =>
                              first
                                | exact ⟨k, s, D5, by omega, by omega, by omega, rfl, by go_num, HS.out, HR.out, hpl, belN hbel _⟩
                                | (repeat apply Exists.intro; exact ⟨⟨k, s, D5, by omega, by omega, by omega, rfl, by go_num, HS.out, HR.out, hpl, belN hbel _⟩, rfl⟩)
                            case measure => simp [intOf] <;> omega
                        · have hj0' : ¬ (j : Int) + 1 < b := by omega
                          go_wp2_with fail
                          have hpl : Hid (partialIns ltInt a b s (k + 1) D5 = partialInsertionSort ltInt d a b) := by
                            have e : D5 = (if b - (k + 1) ≥ 2 then shiftUp ltInt b (k + 1 + 1) D3 else D3) := by
                              have h := hsd.out
                              rw [shiftUp_eq, if_neg hj0] at h
                              rw [if_pos h2, ← h]
                            rw [e, HD3.out, HD2.out]
                            exact HPF.out.symm
                          go_roundw
                          case rel =>
                            first
                              | exact ⟨k, s, D5, by omega, by omega, by omega, rfl, by go_num, HS.out, HR.out, hpl, hbel⟩
                              | (repeat apply Exists.intro; exact ⟨⟨k, s, D5, by omega, by omega, by omega, rfl, by go_num, HS.out, HR.out, hpl, hbel⟩, rfl⟩)
                          case measure => simp [intOf] <;> omega
                    · have h2' : ¬ (2 : Int) ≤ (b : Int) - ((k : Int) + 1) := by omega
                      go_wp2_with fail
                      have hpl : Hid (partialIns ltInt a b s (k + 1) D3 = partialInsertionSort ltInt d a b) := by
                        have e : D3 = (if b - (k + 1) ≥ 2 then shiftUp ltInt b (k + 1 + 1) D3 else D3) := by
                          rw [if_neg h2]
                        rw [e, HD3.out, HD2.out]
                        exact HPF.out.symm
                      go_roundw
                      case rel =>
                        first
                          | exact ⟨k, s, D3, by omega, by omega, by omega, rfl, by go_num, HS.out, HR.out, hpl, hbel⟩
                          | (repeat apply Exists.intro; exact ⟨⟨k, s, D3, by omega, by omega, by omega, rfl, by go_num, HS.out, HR.out, hpl, hbel⟩, rfl⟩)
                      case measure => simp [intOf] <;> omega
          · have hb1 : k + 1 < b := by
              have := hbb.out
              simp at this
              omega
            go_wp2_with fail
            go_roundw
            case rel =>
              have r5 : Hid (scanSorted ltInt D1 b (k + 1 + 1) = scanSorted ltInt D1 b (i + 1)) := by rw [← scanSorted_step D1 b k hbb.out.symm]; exact hsc
              first
                | exact ⟨k + 1, q', by omega, by omega, by go_num, rfl, r5⟩
                | (repeat apply Exists.intro; exact ⟨⟨k + 1, q', by omega, by omega, by go_num, rfl, r5⟩, rfl⟩)
            case measure => simp [intOf] <;> omega
end Go.Proofs.Ybulkbaha
