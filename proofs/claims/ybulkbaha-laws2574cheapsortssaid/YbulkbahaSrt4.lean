import Derived.Test.YbulkbahaSrt0
namespace Go.Proofs.Ybulkbaha
open Go.RowKit Go.Sort

theorem scanUp_stop (p : Int → Bool) (d : Array Int) (j i : Nat) (h : (decide (i ≤ j) && p d[i]!) = false) : scanUp p d j i = i := by
  rw [scanUp, h]; rfl
theorem scanUp_step (p : Int → Bool) (d : Array Int) (j i : Nat) (h : (decide (i ≤ j) && p d[i]!) = true) : scanUp p d j i = scanUp p d j (i + 1) := by
  rw [scanUp, h]; rfl
theorem scanDown_stop (p : Int → Bool) (d : Array Int) (i j : Nat) (h : (decide (i ≤ j) && p d[j]!) = false) : scanDown p d i j = j := by
  cases j with
  | zero => rfl
  | succ j => rw [scanDown, h]; rfl
theorem scanDown_step (p : Int → Bool) (d : Array Int) (i j : Nat) (h : (decide (i ≤ j + 1) && p d[j + 1]!) = true) : scanDown p d i (j + 1) = scanDown p d i j := by
  rw [scanDown, h]; rfl
theorem partLoop_eq (a i j : Nat) (d : Array Int) (i2 j2 : Nat) (h1 : i2 = scanUp (fun x => ltInt x d[a]!) d j i) (h2 : j2 = scanDown (fun x => !ltInt x d[a]!) d i2 j) (h3 : i ≤ i2) (h4 : j2 ≤ j) :
    partLoop ltInt a i j d = if i2 > j2 then (j2, d) else partLoop ltInt a (i2 + 1) (j2 - 1) (swp d i2 j2) := by
  rw [partLoop]
  simp only [← h1, ← h2]
  by_cases h : i2 > j2
  · simp [h]
  · rw [if_neg h, if_neg h, dif_pos (by omega)]

set_option maxRecDepth 100000 in
set_option maxHeartbeats 4000000 in
theorem partition_any (blk n a b pv : Nat) (d : Array Int) (w : World) (hr : Row w blk d) (hn : d.size = n) (hn2 : n ≤ 1024) (hap : a ≤ pv) (hpb : pv < b) (hb : b ≤ n) :
    Calls Yba.prog 32 #[.slice (some ⟨blk, 0, none⟩) n n, .int .i64 a, .int .i64 b, .int .i64 pv] w fun e w' => e = .returned (.tuple #[.int .i64 (partition ltInt d a b pv).1, .bool (partition ltInt d a b pv).2.1]) ∧ Row w' blk (partition ltInt d a b pv).2.2 ∧ Below blk w w' := by
  have HR : Hid (Row w blk d) := hr
  have HS : Hid (d.size = n) := hn
  have hbel : Below blk w w := Below.refl _ _
  clear hr hn
  go_enter Yba.func32, Yba.ntmps32
  go_upto_region 1 with fail
  go_cut [] (fun wc => Row wc blk (swp d (a) (pv)) ∧ Below blk w wc)
  case first =>
    have c1 := HR.out.cell (a) (by have := HS.out; omega)
    have c2 := HR.out.cell (pv) (by have := HS.out; omega)
    have f1 := HR.out.free (a)
    have f2 := HR.out.free (pv)
    obtain ⟨x, hx⟩ : ∃ x, x = d[a]! := ⟨_, rfl⟩
    obtain ⟨y, hy⟩ : ∃ y, y = d[pv]! := ⟨_, rfl⟩
    have hsw := HR.out.swap (a) (pv)
    rw [← hx] at c1
    rw [← hy] at c2
    rw [← hx, ← hy] at hsw
    have HSW : Hid (Row ((w.setCell ⟨blk, a, none⟩ (.int .u64 y)).setCell ⟨blk, pv, none⟩ (.int .u64 x)) blk (swp d (a) (pv))) := hsw
    have HBL : Hid (Below blk w ((w.setCell ⟨blk, a, none⟩ (.int .u64 y)).setCell ⟨blk, pv, none⟩ (.int .u64 x))) := (hbel.setCell (Nat.le_refl _) _).setCell (Nat.le_refl _) _
    have g1 : ((a : Nat) : Int) < n := by have := HS.out; omega
    have g2 : ((pv : Nat) : Int) < n := by have := HS.out; omega
    by_cases hij : a = pv
    · have hxy : x = y := by rw [hx, hy, hij]
      subst hxy
      clear hx hy hsw
      subst hij
      go_region
      go_wp2_with fail
      go_meet
      exact ⟨HSW.out, HBL.out.os, HBL.out.tape, HBL.out.output, HBL.out.size, HBL.out.block⟩
    · clear hx hy hsw
      go_region
      go_wp2_with fail
      go_meet
      exact ⟨HSW.out, HBL.out.os, HBL.out.tape, HBL.out.output, HBL.out.size, HBL.out.block⟩
  case rest =>
    obtain ⟨hr1, hb1⟩ := hcut
    obtain ⟨W1, rfl⟩ : ∃ W1, W1 = wc := ⟨_, rfl⟩
    obtain ⟨D1, hD1⟩ : ∃ D1, D1 = swp d (a) (pv) := ⟨_, rfl⟩
    have hz1 : D1.size = n := by rw [hD1, size_swp]; exact HS.out
    rw [← hD1] at hr1
    have HD1 : Hid (D1 = swp d (a) (pv)) := hD1
    clear HR HS hD1 hbel
    have HR : Hid (Row W1 blk D1) := hr1
    have HS : Hid (D1.size = n) := hz1
    have hbel : Below blk w W1 := hb1
    clear hr1 hb1 hz1
    obtain ⟨b, rfl⟩ : ∃ m, b = m + 1 := ⟨b - 1, by omega⟩
    go_wp2_with fail
    go_loopw [10] (fun iv wr => ∃ i1 q : Nat, a + 1 ≤ i1 ∧ i1 ≤ 2000 ∧ iv = .int .i64 i1 ∧ wr = W1.drewN q ∧ Hid (scanUp (fun x => ltInt x D1[a]!) D1 b i1 = scanUp (fun x => ltInt x D1[a]!) D1 b (a + 1))) (fun iv _ => 2000 - (intOf iv).toNat)
    case atStart => exact ⟨a + 1, 0, Nat.le_refl _, by omega, by go_num, rfl, rfl⟩
    case round =>
      obtain ⟨i1, q, hi1, hi1b, rfl, rfl, hsc⟩ := hrel
      go_upto_region 3 with fail
      go_cut [43] from 30 to 45 (fun bv wc => ∃ (bb : Bool) (q' : Nat), bv = .bool bb ∧ wc = W1.drewN q' ∧ Hid (bb = (decide (i1 ≤ b) && ltInt D1[i1]! D1[a]!)))
      case first =>
        by_cases h2 : i1 ≤ b
        · have h2' : (i1 : Int) ≤ b := by omega
          have c1 := HR.out.cell i1 (by have := HS.out; omega)
          have c2 := HR.out.cell a (by have := HS.out; omega)
          obtain ⟨x, hx⟩ : ∃ x, x = D1[i1]! := ⟨_, rfl⟩
          obtain ⟨y, hy⟩ : ∃ y, y = D1[a]! := ⟨_, rfl⟩
          rw [← hx] at c1
          rw [← hy] at c2
          have HX : Hid (x = D1[i1]!) := hx
          have HY : Hid (y = D1[a]!) := hy
          have g1 : (i1 : Int) < n := by omega
          have g2 : (a : Int) < n := by omega
          clear hx hy
          go_quiet ((go_at_call 30; first | exact Calls.quiet_of_same (less_any _ _ _) | exact less_drew _ _ _ _ _))
          go_wp2_with fail
          go_meet
          exact ⟨_, _, rfl, World.drewN_drewN .., by rw [← HX.out, ← HY.out, decide_eq_true h2, Bool.true_and]; rfl⟩
        · have h2' : decide ((i1 : Int) ≤ b) = false := by simp; omega
          go_quiet (fail)
          go_wp2_with fail
          go_meet
          exact ⟨false, _, rfl, World.drewN_drewN .., by rw [decide_eq_false h2, Bool.false_and]; rfl⟩
      case rest =>
        obtain ⟨bb, q', rfl, rfl, hbb⟩ := hcut
        cases bb
        · have HIi1 : Hid (i1 = scanUp (fun x => ltInt x D1[a]!) D1 b (a + 1)) := by
            have h := hsc.out
            rw [scanUp_stop (fun x => ltInt x D1[a]!) D1 b i1 hbb.out.symm] at h
            exact h
          clear hsc hbb
          go_wp2_with fail
          go_loopw [11] (fun jv wr => ∃ j1 q : Nat, a ≤ j1 ∧ j1 ≤ b ∧ jv = .int .i64 j1 ∧ wr = W1.drewN q ∧ Hid (scanDown (fun x => !ltInt x D1[a]!) D1 i1 j1 = scanDown (fun x => !ltInt x D1[a]!) D1 i1 (b))) (fun jv _ => (intOf jv).toNat)
          case atStart => exact ⟨b, q', by omega, Nat.le_refl _, by go_num, rfl, rfl⟩
          case round =>
            obtain ⟨j1, q, hj1, hj1b, rfl, rfl, hsc⟩ := hrel
            go_upto_region 5 with fail
            go_cut [60] from 46 to 62 (fun bv wc => ∃ (bb : Bool) (q' : Nat), bv = .bool bb ∧ wc = W1.drewN q' ∧ Hid (bb = (decide (i1 ≤ j1) && !ltInt D1[j1]! D1[a]!)))
            case first =>
              by_cases h2 : i1 ≤ j1
              · have h2' : (i1 : Int) ≤ j1 := by omega
                have c1 := HR.out.cell j1 (by have := HS.out; omega)
                have c2 := HR.out.cell a (by have := HS.out; omega)
                obtain ⟨x, hx⟩ : ∃ x, x = D1[j1]! := ⟨_, rfl⟩
                obtain ⟨y, hy⟩ : ∃ y, y = D1[a]! := ⟨_, rfl⟩
                rw [← hx] at c1
                rw [← hy] at c2
                have HX : Hid (x = D1[j1]!) := hx
                have HY : Hid (y = D1[a]!) := hy
                have g1 : (j1 : Int) < n := by omega
                have g2 : (a : Int) < n := by omega
                clear hx hy
                go_quiet ((go_at_call 30; first | exact Calls.quiet_of_same (less_any _ _ _) | exact less_drew _ _ _ _ _))
                go_wp2_with fail
                go_meet
                exact ⟨_, _, rfl, World.drewN_drewN .., by rw [← HX.out, ← HY.out, decide_eq_true h2, Bool.true_and]; rfl⟩
              · have h2' : decide ((i1 : Int) ≤ j1) = false := by simp; omega
                go_quiet (fail)
                go_wp2_with fail
                go_meet
                exact ⟨false, _, rfl, World.drewN_drewN .., by rw [decide_eq_false h2, Bool.false_and]; rfl⟩
            case rest =>
              obtain ⟨bb, q', rfl, rfl, hbb⟩ := hcut
              cases bb
              · have HJj1 : Hid (j1 = scanDown (fun x => !ltInt x D1[a]!) D1 i1 (b)) := by
                  have h := hsc.out
                  rw [scanDown_stop (fun x => !ltInt x D1[a]!) D1 i1 j1 hbb.out.symm] at h
                  exact h
                clear hsc hbb
                by_cases hgt : i1 > j1
                · have hgt' : (j1 : Int) < i1 := by omega
                  go_upto_region 8 with fail
                  go_cut [] (fun wc => Row wc blk (swp D1 (j1) (a)) ∧ Below blk w wc)
                  case first =>
                    have c1 := HR.out.cell (j1) (by have := HS.out; omega)
                    have c2 := HR.out.cell (a) (by have := HS.out; omega)
                    have f1 := HR.out.free (j1)
                    have f2 := HR.out.free (a)
                    obtain ⟨x, hx⟩ : ∃ x, x = D1[j1]! := ⟨_, rfl⟩
                    obtain ⟨y, hy⟩ : ∃ y, y = D1[a]! := ⟨_, rfl⟩
                    have hsw := HR.out.swap (j1) (a)
                    rw [← hx] at c1
                    rw [← hy] at c2
                    rw [← hx, ← hy] at hsw
                    have HSW : Hid (Row ((W1.setCell ⟨blk, j1, none⟩ (.int .u64 y)).setCell ⟨blk, a, none⟩ (.int .u64 x)) blk (swp D1 (j1) (a))) := hsw
                    have HBL : Hid (Below blk w ((W1.setCell ⟨blk, j1, none⟩ (.int .u64 y)).setCell ⟨blk, a, none⟩ (.int .u64 x))) := (hbel.setCell (Nat.le_refl _) _).setCell (Nat.le_refl _) _
                    have g1 : ((j1 : Nat) : Int) < n := by have := HS.out; omega
                    have g2 : ((a : Nat) : Int) < n := by have := HS.out; omega
                    by_cases hij : j1 = a
                    · have hxy : x = y := by rw [hx, hy, hij]
                      subst hxy
                      clear hx hy hsw
                      subst hij
                      go_region
                      go_wp2_with fail
                      go_meet
                      exact ⟨HSW.out, HBL.out.os, HBL.out.tape, HBL.out.output, HBL.out.size, HBL.out.block⟩
                    · clear hx hy hsw
                      go_region
                      go_wp2_with fail
                      go_meet
                      exact ⟨HSW.out, HBL.out.os, HBL.out.tape, HBL.out.output, HBL.out.size, HBL.out.block⟩
                  case rest =>
                    obtain ⟨hr1, hb1⟩ := hcut
                    obtain ⟨W2, rfl⟩ : ∃ W2, W2 = wc := ⟨_, rfl⟩
                    obtain ⟨D2, hD2⟩ : ∃ D2, D2 = swp D1 (j1) (a) := ⟨_, rfl⟩
                    have hz1 : D2.size = n := by rw [hD2, size_swp]; exact HS.out
                    rw [← hD2] at hr1
                    have HD2 : Hid (D2 = swp D1 (j1) (a)) := hD2
                    clear HR HS hD2 hbel
                    have HR : Hid (Row W2 blk D2) := hr1
                    have HS : Hid (D2.size = n) := hz1
                    have hbel : Below blk w W2 := hb1
                    clear hr1 hb1 hz1
                    go_wp2_with fail
                    go_returns
                    have e : partition ltInt d a (b + 1) pv = (j1, true, D2) := by
                      unfold partition
                      simp only [← HD1.out, Nat.add_sub_cancel, ← HIi1.out, ← HJj1.out, if_pos hgt, HD2.out]
                    rw [e]
                    exact ⟨rfl, HR.out, hbel⟩
                · have hgt' : ¬ (j1 : Int) < i1 := by omega
                  go_upto_region 10 with fail
                  go_cut [] (fun wc => Row wc blk (swp D1 (i1) (j1)) ∧ Below blk w wc)
                  case first =>
                    have c1 := HR.out.cell (i1) (by have := HS.out; omega)
                    have c2 := HR.out.cell (j1) (by have := HS.out; omega)
                    have f1 := HR.out.free (i1)
                    have f2 := HR.out.free (j1)
                    obtain ⟨x, hx⟩ : ∃ x, x = D1[i1]! := ⟨_, rfl⟩
                    obtain ⟨y, hy⟩ : ∃ y, y = D1[j1]! := ⟨_, rfl⟩
                    have hsw := HR.out.swap (i1) (j1)
                    rw [← hx] at c1
                    rw [← hy] at c2
                    rw [← hx, ← hy] at hsw
                    have HSW : Hid (Row ((W1.setCell ⟨blk, i1, none⟩ (.int .u64 y)).setCell ⟨blk, j1, none⟩ (.int .u64 x)) blk (swp D1 (i1) (j1))) := hsw
                    have HBL : Hid (Below blk w ((W1.setCell ⟨blk, i1, none⟩ (.int .u64 y)).setCell ⟨blk, j1, none⟩ (.int .u64 x))) := (hbel.setCell (Nat.le_refl _) _).setCell (Nat.le_refl _) _
                    have g1 : ((i1 : Nat) : Int) < n := by have := HS.out; omega
                    have g2 : ((j1 : Nat) : Int) < n := by have := HS.out; omega
                    by_cases hij : i1 = j1
                    · have hxy : x = y := by rw [hx, hy, hij]
                      subst hxy
                      clear hx hy hsw
                      subst hij
                      go_region
                      go_wp2_with fail
                      go_meet
                      exact ⟨HSW.out, HBL.out.os, HBL.out.tape, HBL.out.output, HBL.out.size, HBL.out.block⟩
                    · clear hx hy hsw
                      go_region
                      go_wp2_with fail
                      go_meet
                      exact ⟨HSW.out, HBL.out.os, HBL.out.tape, HBL.out.output, HBL.out.size, HBL.out.block⟩
                  case rest =>
                    obtain ⟨hr1, hb1⟩ := hcut
                    obtain ⟨W2, rfl⟩ : ∃ W2, W2 = wc := ⟨_, rfl⟩
                    obtain ⟨D2, hD2⟩ : ∃ D2, D2 = swp D1 (i1) (j1) := ⟨_, rfl⟩
                    have hz1 : D2.size = n := by rw [hD2, size_swp]; exact HS.out
                    rw [← hD2] at hr1
                    have HD2 : Hid (D2 = swp D1 (i1) (j1)) := hD2
                    clear HR HS hD2 hbel
                    have HR : Hid (Row W2 blk D2) := hr1
                    have HS : Hid (D2.size = n) := hz1
                    have hbel : Below blk w W2 := hb1
                    clear hr1 hb1 hz1
                    go_wp2_with fail
                    go_loopw [10, 11] (fun iv jv wr => ∃ (i j : Nat) (d3 : Array Int), a + 1 ≤ i ∧ i ≤ 1999 ∧ a ≤ j ∧ j ≤ b ∧ iv = .int .i64 i ∧ jv = .int .i64 j ∧ d3.size = n ∧ Row wr blk d3 ∧ Hid (partLoop ltInt a i j d3 = partLoop ltInt a (i1 + 1) (j1 - 1) D2) ∧ Below blk w wr) (fun iv jv _ => (intOf jv + 2 - intOf iv).toNat)
                    case atStart => exact ⟨i1 + 1, j1 - 1, D2, by omega, by omega, by omega, by omega, by go_num, by go_num, HS.out, HR.out, rfl, hbel⟩
                    case round =>
                      clear HR HS hbel
                      obtain ⟨i, j, D3, hi, hib, hj, hjb, rfl, rfl, hs, hr, hpl, hbel⟩ := hrel
                      obtain ⟨W3, rfl⟩ : ∃ W3, W3 = wr := ⟨_, rfl⟩
                      have HR : Hid (Row W3 blk D3) := hr
                      have HS : Hid (D3.size = n) := hs
                      clear hr hs
                      go_wp2_with fail
                      go_loopw [10] (fun iv wr => ∃ i2 q : Nat, i ≤ i2 ∧ i2 ≤ 2000 ∧ iv = .int .i64 i2 ∧ wr = W3.drewN q ∧ Hid (scanUp (fun x => ltInt x D3[a]!) D3 j i2 = scanUp (fun x => ltInt x D3[a]!) D3 j (i))) (fun iv _ => 2000 - (intOf iv).toNat)
                      case atStart => exact ⟨i, 0, Nat.le_refl _, by omega, by go_num, rfl, rfl⟩
                      case round =>
                        obtain ⟨i2, q, hi2, hi2b, rfl, rfl, hsc⟩ := hrel
                        go_upto_region 13 with fail
                        go_cut [112] from 99 to 114 (fun bv wc => ∃ (bb : Bool) (q' : Nat), bv = .bool bb ∧ wc = W3.drewN q' ∧ Hid (bb = (decide (i2 ≤ j) && ltInt D3[i2]! D3[a]!)))
                        case first =>
                          by_cases h2 : i2 ≤ j
                          · have h2' : (i2 : Int) ≤ j := by omega
                            have c1 := HR.out.cell i2 (by have := HS.out; omega)
                            have c2 := HR.out.cell a (by have := HS.out; omega)
                            obtain ⟨x, hx⟩ : ∃ x, x = D3[i2]! := ⟨_, rfl⟩
                            obtain ⟨y, hy⟩ : ∃ y, y = D3[a]! := ⟨_, rfl⟩
                            rw [← hx] at c1
                            rw [← hy] at c2
                            have HX : Hid (x = D3[i2]!) := hx
                            have HY : Hid (y = D3[a]!) := hy
                            have g1 : (i2 : Int) < n := by omega
                            have g2 : (a : Int) < n := by omega
                            clear hx hy
                            go_quiet ((go_at_call 30; first | exact Calls.quiet_of_same (less_any _ _ _) | exact less_drew _ _ _ _ _))
                            go_wp2_with fail
                            go_meet
                            exact ⟨_, _, rfl, World.drewN_drewN .., by rw [← HX.out, ← HY.out, decide_eq_true h2, Bool.true_and]; rfl⟩
                          · have h2' : decide ((i2 : Int) ≤ j) = false := by simp; omega
                            go_quiet (fail)
                            go_wp2_with fail
                            go_meet
                            exact ⟨false, _, rfl, World.drewN_drewN .., by rw [decide_eq_false h2, Bool.false_and]; rfl⟩
                        case rest =>
                          obtain ⟨bb, q', rfl, rfl, hbb⟩ := hcut
                          cases bb
                          · have HIi2 : Hid (i2 = scanUp (fun x => ltInt x D3[a]!) D3 j (i)) := by
                              have h := hsc.out
                              rw [scanUp_stop (fun x => ltInt x D3[a]!) D3 j i2 hbb.out.symm] at h
                              exact h
                            clear hsc hbb
                            go_wp2_with fail
                            go_loopw [11] (fun jv wr => ∃ j2 q : Nat, a ≤ j2 ∧ j2 ≤ j ∧ jv = .int .i64 j2 ∧ wr = W3.drewN q ∧ Hid (scanDown (fun x => !ltInt x D3[a]!) D3 i2 j2 = scanDown (fun x => !ltInt x D3[a]!) D3 i2 (j))) (fun jv _ => (intOf jv).toNat)
                            case atStart => exact ⟨j, q', by omega, Nat.le_refl _, by go_num, rfl, rfl⟩
                            case round =>
                              obtain ⟨j2, q, hj2, hj2b, rfl, rfl, hsc⟩ := hrel
                              go_upto_region 15 with fail
                              go_cut [129] from 115 to 131 (fun bv wc => ∃ (bb : Bool) (q' : Nat), bv = .bool bb ∧ wc = W3.drewN q' ∧ Hid (bb = (decide (i2 ≤ j2) && !ltInt D3[j2]! D3[a]!)))
                              case first =>
                                by_cases h2 : i2 ≤ j2
                                · have h2' : (i2 : Int) ≤ j2 := by omega
                                  have c1 := HR.out.cell j2 (by have := HS.out; omega)
                                  have c2 := HR.out.cell a (by have := HS.out; omega)
                                  obtain ⟨x, hx⟩ : ∃ x, x = D3[j2]! := ⟨_, rfl⟩
                                  obtain ⟨y, hy⟩ : ∃ y, y = D3[a]! := ⟨_, rfl⟩
                                  rw [← hx] at c1
                                  rw [← hy] at c2
                                  have HX : Hid (x = D3[j2]!) := hx
                                  have HY : Hid (y = D3[a]!) := hy
                                  have g1 : (j2 : Int) < n := by omega
                                  have g2 : (a : Int) < n := by omega
                                  clear hx hy
                                  go_quiet ((go_at_call 30; first | exact Calls.quiet_of_same (less_any _ _ _) | exact less_drew _ _ _ _ _))
                                  go_wp2_with fail
                                  go_meet
                                  exact ⟨_, _, rfl, World.drewN_drewN .., by rw [← HX.out, ← HY.out, decide_eq_true h2, Bool.true_and]; rfl⟩
                                · have h2' : decide ((i2 : Int) ≤ j2) = false := by simp; omega
                                  go_quiet (fail)
                                  go_wp2_with fail
                                  go_meet
                                  exact ⟨false, _, rfl, World.drewN_drewN .., by rw [decide_eq_false h2, Bool.false_and]; rfl⟩
                              case rest =>
                                obtain ⟨bb, q', rfl, rfl, hbb⟩ := hcut
                                cases bb
                                · have HJj2 : Hid (j2 = scanDown (fun x => !ltInt x D3[a]!) D3 i2 (j)) := by
                                    have h := hsc.out
                                    rw [scanDown_stop (fun x => !ltInt x D3[a]!) D3 i2 j2 hbb.out.symm] at h
                                    exact h
                                  clear hsc hbb
                                  by_cases hgt2 : i2 > j2
                                  · have hgt2' : (j2 : Int) < i2 := by omega
                                    go_upto_region 21 with fail
                                    go_cut [] (fun wc => Row wc blk (swp D3 (j2) (a)) ∧ Below blk w wc)
                                    case first =>
                                      have c1 := HR.out.cell (j2) (by have := HS.out; omega)
                                      have c2 := HR.out.cell (a) (by have := HS.out; omega)
                                      have f1 := HR.out.free (j2)
                                      have f2 := HR.out.free (a)
                                      obtain ⟨x, hx⟩ : ∃ x, x = D3[j2]! := ⟨_, rfl⟩
                                      obtain ⟨y, hy⟩ : ∃ y, y = D3[a]! := ⟨_, rfl⟩
                                      have hsw := HR.out.swap (j2) (a)
                                      rw [← hx] at c1
                                      rw [← hy] at c2
                                      rw [← hx, ← hy] at hsw
                                      have HSW : Hid (Row ((W3.setCell ⟨blk, j2, none⟩ (.int .u64 y)).setCell ⟨blk, a, none⟩ (.int .u64 x)) blk (swp D3 (j2) (a))) := hsw
                                      have HBL : Hid (Below blk w ((W3.setCell ⟨blk, j2, none⟩ (.int .u64 y)).setCell ⟨blk, a, none⟩ (.int .u64 x))) := (hbel.setCell (Nat.le_refl _) _).setCell (Nat.le_refl _) _
                                      have g1 : ((j2 : Nat) : Int) < n := by have := HS.out; omega
                                      have g2 : ((a : Nat) : Int) < n := by have := HS.out; omega
                                      by_cases hij : j2 = a
                                      · have hxy : x = y := by rw [hx, hy, hij]
                                        subst hxy
                                        clear hx hy hsw
                                        subst hij
                                        go_region
                                        go_wp2_with fail
                                        go_meet
                                        exact ⟨HSW.out, HBL.out.os, HBL.out.tape, HBL.out.output, HBL.out.size, HBL.out.block⟩
                                      · clear hx hy hsw
                                        go_region
                                        go_wp2_with fail
                                        go_meet
                                        exact ⟨HSW.out, HBL.out.os, HBL.out.tape, HBL.out.output, HBL.out.size, HBL.out.block⟩
                                    case rest =>
                                      obtain ⟨hr1, hb1⟩ := hcut
                                      obtain ⟨W4, rfl⟩ : ∃ W4, W4 = wc := ⟨_, rfl⟩
                                      obtain ⟨D4, hD4⟩ : ∃ D4, D4 = swp D3 (j2) (a) := ⟨_, rfl⟩
                                      have hz1 : D4.size = n := by rw [hD4, size_swp]; exact HS.out
                                      rw [← hD4] at hr1
                                      have HD4 : Hid (D4 = swp D3 (j2) (a)) := hD4
                                      clear HR HS hD4 hbel
                                      have HR : Hid (Row W4 blk D4) := hr1
                                      have HS : Hid (D4.size = n) := hz1
                                      have hbel : Below blk w W4 := hb1
                                      clear hr1 hb1 hz1
                                      go_wp2_with fail
                                      go_returns
                                      have e : partition ltInt d a (b + 1) pv = (j2, false, D4) := by
                                        unfold partition
                                        simp only [← HD1.out, Nat.add_sub_cancel, ← HIi1.out, ← HJj1.out, if_neg hgt, ← HD2.out]
                                        rw [← hpl.out, partLoop_eq a i j D3 i2 j2 HIi2.out HJj2.out hi2 hj2b, if_pos hgt2, HD4.out]
                                      rw [e]
                                      exact ⟨rfl, HR.out, hbel⟩
                                  · have hgt2' : ¬ (j2 : Int) < i2 := by omega
                                    go_upto_region 18 with fail
                                    go_cut [] from 99 to 152 (fun wc => Row wc blk (swp D3 (i2) (j2)) ∧ Below blk w wc)
                                    case first =>
                                      have c1 := HR.out.cell (i2) (by have := HS.out; omega)
                                      have c2 := HR.out.cell (j2) (by have := HS.out; omega)
                                      have f1 := HR.out.free (i2)
                                      have f2 := HR.out.free (j2)
                                      obtain ⟨x, hx⟩ : ∃ x, x = D3[i2]! := ⟨_, rfl⟩
                                      obtain ⟨y, hy⟩ : ∃ y, y = D3[j2]! := ⟨_, rfl⟩
                                      have hsw := HR.out.swap (i2) (j2)
                                      rw [← hx] at c1
                                      rw [← hy] at c2
                                      rw [← hx, ← hy] at hsw
                                      have HSW : Hid (Row ((W3.setCell ⟨blk, i2, none⟩ (.int .u64 y)).setCell ⟨blk, j2, none⟩ (.int .u64 x)) blk (swp D3 (i2) (j2))) := hsw
                                      have HBL : Hid (Below blk w ((W3.setCell ⟨blk, i2, none⟩ (.int .u64 y)).setCell ⟨blk, j2, none⟩ (.int .u64 x))) := (hbel.setCell (Nat.le_refl _) _).setCell (Nat.le_refl _) _
                                      have g1 : ((i2 : Nat) : Int) < n := by have := HS.out; omega
                                      have g2 : ((j2 : Nat) : Int) < n := by have := HS.out; omega
                                      by_cases hij : i2 = j2
                                      · have hxy : x = y := by rw [hx, hy, hij]
                                        subst hxy
                                        clear hx hy hsw
                                        subst hij
                                        go_region
                                        go_wp2_with fail
                                        go_meet
                                        exact ⟨HSW.out, HBL.out.os, HBL.out.tape, HBL.out.output, HBL.out.size, HBL.out.block⟩
                                      · clear hx hy hsw
                                        go_region
                                        go_wp2_with fail
                                        go_meet
                                        exact ⟨HSW.out, HBL.out.os, HBL.out.tape, HBL.out.output, HBL.out.size, HBL.out.block⟩
                                    case rest =>
                                      obtain ⟨hr1, hb1⟩ := hcut
                                      obtain ⟨W4, rfl⟩ : ∃ W4, W4 = wc := ⟨_, rfl⟩
                                      obtain ⟨D4, hD4⟩ : ∃ D4, D4 = swp D3 (i2) (j2) := ⟨_, rfl⟩
                                      have hz1 : D4.size = n := by rw [hD4, size_swp]; exact HS.out
                                      rw [← hD4] at hr1
                                      have HD4 : Hid (D4 = swp D3 (i2) (j2)) := hD4
                                      clear HR HS hD4 hbel
                                      have HR : Hid (Row W4 blk D4) := hr1
                                      have HS : Hid (D4.size = n) := hz1
                                      have hbel : Below blk w W4 := hb1
                                      clear hr1 hb1 hz1
                                      have hpl2 : Hid (partLoop ltInt a (i2 + 1) (j2 - 1) D4 = partLoop ltInt a (i1 + 1) (j1 - 1) D2) := by
                                        rw [← hpl.out, partLoop_eq a i j D3 i2 j2 HIi2.out HJj2.out hi2 hj2b, if_neg hgt2, HD4.out]
                                        exact rfl
                                      go_wp2_with fail
                                      go_roundw
                                      case rel =>
                                        first
                                          | exact ⟨i2 + 1, j2 - 1, D4, by omega, by omega, by omega, by omega, by go_num, by go_num, HS.out, HR.out, hpl2, hbel⟩
                                          | (repeat apply Exists.intro; exact ⟨⟨i2 + 1, j2 - 1, D4, by omega, by omega, by omega, by omega, by go_num, by go_num, HS.out, HR.out, hpl2, hbel⟩, rfl⟩)
                                      case measure => simp [intOf] <;> omega
                                · have hb1 : i2 ≤ j2 := by
                                    have := hbb.out
                                    simp at this
                                    omega
                                  obtain ⟨j2, rfl⟩ : ∃ m, j2 = m + 1 := ⟨j2 - 1, by omega⟩
                                  go_wp2_with fail
                                  go_roundw
                                  case rel =>
                                    have r5 : Hid (scanDown (fun x => !ltInt x D3[a]!) D3 i2 j2 = scanDown (fun x => !ltInt x D3[a]!) D3 i2 (j)) := by rw [← scanDown_step (fun x => !ltInt x D3[a]!) D3 i2 j2 hbb.out.symm]; exact hsc
                                    first
                                      | exact ⟨j2, q', by omega, by omega, by go_num, rfl, r5⟩
                                      | (repeat apply Exists.intro; exact ⟨⟨j2, q', by omega, by omega, by go_num, rfl, r5⟩, rfl⟩)
                                  case measure => simp [intOf] <;> omega
                          · have hb1 : i2 ≤ j := by
                              have := hbb.out
                              simp at this
                              omega
                            go_wp2_with fail
                            go_roundw
                            case rel =>
                              have r5 : Hid (scanUp (fun x => ltInt x D3[a]!) D3 j (i2 + 1) = scanUp (fun x => ltInt x D3[a]!) D3 j (i)) := by rw [← scanUp_step (fun x => ltInt x D3[a]!) D3 j i2 hbb.out.symm]; exact hsc
                              first
                                | exact ⟨i2 + 1, q', by omega, by omega, by go_num, rfl, r5⟩
                                | (repeat apply Exists.intro; exact ⟨⟨i2 + 1, q', by omega, by omega, by go_num, rfl, r5⟩, rfl⟩)
                            case measure => simp [intOf] <;> omega
              · have hb1 : i1 ≤ j1 := by
                  have := hbb.out
                  simp at this
                  omega
                obtain ⟨j1, rfl⟩ : ∃ m, j1 = m + 1 := ⟨j1 - 1, by omega⟩
                go_wp2_with fail
                go_roundw
                case rel =>
                  have r5 : Hid (scanDown (fun x => !ltInt x D1[a]!) D1 i1 j1 = scanDown (fun x => !ltInt x D1[a]!) D1 i1 (b)) := by rw [← scanDown_step (fun x => !ltInt x D1[a]!) D1 i1 j1 hbb.out.symm]; exact hsc
                  first
                    | exact ⟨j1, q', by omega, by omega, by go_num, rfl, r5⟩
                    | (repeat apply Exists.intro; exact ⟨⟨j1, q', by omega, by omega, by go_num, rfl, r5⟩, rfl⟩)
                case measure => simp [intOf] <;> omega
        · have hb1 : i1 ≤ b := by
            have := hbb.out
            simp at this
            omega
          go_wp2_with fail
          go_roundw
          case rel =>
            have r5 : Hid (scanUp (fun x => ltInt x D1[a]!) D1 b (i1 + 1) = scanUp (fun x => ltInt x D1[a]!) D1 b (a + 1)) := by rw [← scanUp_step (fun x => ltInt x D1[a]!) D1 b i1 hbb.out.symm]; exact hsc
            first
              | exact ⟨i1 + 1, q', by omega, by omega, by go_num, rfl, r5⟩
              | (repeat apply Exists.intro; exact ⟨⟨i1 + 1, q', by omega, by omega, by go_num, rfl, r5⟩, rfl⟩)
          case measure => simp [intOf] <;> omega
end Go.Proofs.Ybulkbaha
