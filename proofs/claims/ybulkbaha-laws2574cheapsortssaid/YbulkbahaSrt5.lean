import Derived.Test.YbulkbahaSrt4
namespace Go.Proofs.Ybulkbaha
open Go.RowKit Go.Sort

theorem partEqLoop_eq (a i j : Nat) (d : Array Int) (i2 j2 : Nat) (h1 : i2 = scanUp (fun x => !ltInt d[a]! x) d j i) (h2 : j2 = scanDown (fun x => ltInt d[a]! x) d i2 j) (h3 : i ≤ i2) (h4 : j2 ≤ j) :
    partEqLoop ltInt a i j d = if i2 > j2 then (i2, d) else partEqLoop ltInt a (i2 + 1) (j2 - 1) (swp d i2 j2) := by
  rw [partEqLoop]
  simp only [← h1, ← h2]
  by_cases h : i2 > j2
  · simp [h]
  · rw [if_neg h, if_neg h, dif_pos (by omega)]

set_option maxRecDepth 100000 in
set_option maxHeartbeats 4000000 in
theorem partitionEqual_any (blk n a b pv : Nat) (d : Array Int) (w : World) (hr : Row w blk d) (hn : d.size = n) (hn2 : n ≤ 1024) (hap : a ≤ pv) (hpb : pv < b) (hb : b ≤ n) :
    Calls Yba.prog 31 #[.slice (some ⟨blk, 0, none⟩) n n, .int .i64 a, .int .i64 b, .int .i64 pv] w fun e w' => e = .returned (.int .i64 (partitionEqual ltInt d a b pv).1) ∧ Row w' blk (partitionEqual ltInt d a b pv).2 ∧ Below blk w w' := by
  have HR : Hid (Row w blk d) := hr
  have HS : Hid (d.size = n) := hn
  have hbel : Below blk w w := Below.refl _ _
  clear hr hn
  go_enter Yba.func31, Yba.ntmps31
  go_upto_region 1 with fail
  go_cut [] (fun wc => Row wc blk (swp d (a) (pv)) ∧ Below blk w wc)
  case first =>
    have c1 := HR.out.cell (a) (by have := HS.out; omega)
    have c2 := HR.out.cell (pv) (by have := HS.out; omega)
    have f1 := HR.out.free (a)
    have f2 := HR.out.free (pv)
    obtain ⟨x, hx⟩ : ∃ x, x = d[a]! := ⟨_, rfl⟩
    obtain ⟨y, hy⟩ : ∃ y, y = d[pv]! := ⟨_, rfl⟩
    have hsw := HR.out.swap (a) (pv)
    rw [← hx] at c1
    rw [← hy] at c2
    rw [← hx, ← hy] at hsw
    have HSW : Hid (Row ((w.setCell ⟨blk, a, none⟩ (.int .u64 y)).setCell ⟨blk, pv, none⟩ (.int .u64 x)) blk (swp d (a) (pv))) := hsw
    have HBL : Hid (Below blk w ((w.setCell ⟨blk, a, none⟩ (.int .u64 y)).setCell ⟨blk, pv, none⟩ (.int .u64 x))) := (hbel.setCell (Nat.le_refl _) _).setCell (Nat.le_refl _) _
    have g1 : ((a : Nat) : Int) < n := by have := HS.out; omega
    have g2 : ((pv : Nat) : Int) < n := by have := HS.out; omega
    by_cases hij : a = pv
    · have hxy : x = y := by rw [hx, hy, hij]
      subst hxy
      clear hx hy hsw
      subst hij
      go_region
      go_wp2_with fail
      go_meet
      exact ⟨HSW.out, HBL.out.os, HBL.out.tape, HBL.out.output, HBL.out.size, HBL.out.block⟩
    · clear hx hy hsw
      go_region
      go_wp2_with fail
      go_meet
      exact ⟨HSW.out, HBL.out.os, HBL.out.tape, HBL.out.output, HBL.out.size, HBL.out.block⟩
  case rest =>
    obtain ⟨hr1, hb1⟩ := hcut
    obtain ⟨W1, rfl⟩ : ∃ W1, W1 = wc := ⟨_, rfl⟩
    obtain ⟨D1, hD1⟩ : ∃ D1, D1 = swp d (a) (pv) := ⟨_, rfl⟩
    have hz1 : D1.size = n := by rw [hD1, size_swp]; exact HS.out
    rw [← hD1] at hr1
    have HD1 : Hid (D1 = swp d (a) (pv)) := hD1
    clear HR HS hD1 hbel
    have HR : Hid (Row W1 blk D1) := hr1
    have HS : Hid (D1.size = n) := hz1
    have hbel : Below blk w W1 := hb1
    clear hr1 hb1 hz1
    obtain ⟨b, rfl⟩ : ∃ m, b = m + 1 := ⟨b - 1, by omega⟩
    go_wp2_with fail
    go_loopw [9, 10] (fun iv jv wr => ∃ (i j : Nat) (d3 : Array Int), a + 1 ≤ i ∧ i ≤ 1999 ∧ a ≤ j ∧ j ≤ b ∧ iv = .int .i64 i ∧ jv = .int .i64 j ∧ d3.size = n ∧ Row wr blk d3 ∧ Hid (partEqLoop ltInt a i j d3 = partEqLoop ltInt a (a + 1) b D1) ∧ Below blk w wr) (fun iv jv _ => (intOf jv + 2 - intOf iv).toNat)
    case atStart => exact ⟨a + 1, b, D1, by omega, by omega, by omega, by omega, by go_num, by go_num, HS.out, HR.out, rfl, hbel⟩
    case round =>
      clear HR HS hbel
      obtain ⟨i, j, D3, hi, hib, hj, hjb, rfl, rfl, hs, hr, hpl, hbel⟩ := hrel
      obtain ⟨W3, rfl⟩ : ∃ W3, W3 = wr := ⟨_, rfl⟩
      have HR : Hid (Row W3 blk D3) := hr
      have HS : Hid (D3.size = n) := hs
      clear hr hs
      go_wp2_with fail
      go_loopw [9] (fun iv wr => ∃ i2 q : Nat, i ≤ i2 ∧ i2 ≤ 2000 ∧ iv = .int .i64 i2 ∧ wr = W3.drewN q ∧ Hid (scanUp (fun x => !ltInt D3[a]! x) D3 j i2 = scanUp (fun x => !ltInt D3[a]! x) D3 j (i))) (fun iv _ => 2000 - (intOf iv).toNat)
      case atStart => exact ⟨i, 0, Nat.le_refl _, by omega, by go_num, rfl, rfl⟩
      case round =>
        obtain ⟨i2, q, hi2, hi2b, rfl, rfl, hsc⟩ := hrel
        go_upto_region 3 with fail
        go_cut [43] from 29 to 45 (fun bv wc => ∃ (bb : Bool) (q' : Nat), bv = .bool bb ∧ wc = W3.drewN q' ∧ Hid (bb = (decide (i2 ≤ j) && !ltInt D3[a]! D3[i2]!)))
        case first =>
          by_cases h2 : i2 ≤ j
          · have h2' : (i2 : Int) ≤ j := by omega
            have c1 := HR.out.cell i2 (by have := HS.out; omega)
            have c2 := HR.out.cell a (by have := HS.out; omega)
            obtain ⟨x, hx⟩ : ∃ x, x = D3[i2]! := ⟨_, rfl⟩
            obtain ⟨y, hy⟩ : ∃ y, y = D3[a]! := ⟨_, rfl⟩
            rw [← hx] at c1
            rw [← hy] at c2
            have HX : Hid (x = D3[i2]!) := hx
            have HY : Hid (y = D3[a]!) := hy
            have g1 : (i2 : Int) < n := by omega
            have g2 : (a : Int) < n := by omega
            clear hx hy
            go_quiet ((go_at_call 30; first | exact Calls.quiet_of_same (less_any _ _ _) | exact less_drew _ _ _ _ _))
            go_wp2_with fail
            go_meet
            exact ⟨_, _, rfl, World.drewN_drewN .., by rw [← HX.out, ← HY.out, decide_eq_true h2, Bool.true_and]; rfl⟩
          · have h2' : decide ((i2 : Int) ≤ j) = false := by simp; omega
            go_quiet (fail)
            go_wp2_with fail
            go_meet
            exact ⟨false, _, rfl, World.drewN_drewN .., by rw [decide_eq_false h2, Bool.false_and]; rfl⟩
        case rest =>
          obtain ⟨bb, q', rfl, rfl, hbb⟩ := hcut
          cases bb
          · have HIi2 : Hid (i2 = scanUp (fun x => !ltInt D3[a]! x) D3 j (i)) := by
              have h := hsc.out
              rw [scanUp_stop (fun x => !ltInt D3[a]! x) D3 j i2 hbb.out.symm] at h
              exact h
            clear hsc hbb
            go_wp2_with fail
            go_loopw [10] (fun jv wr => ∃ j2 q : Nat, a ≤ j2 ∧ j2 ≤ j ∧ jv = .int .i64 j2 ∧ wr = W3.drewN q ∧ Hid (scanDown (fun x => ltInt D3[a]! x) D3 i2 j2 = scanDown (fun x => ltInt D3[a]! x) D3 i2 (j))) (fun jv _ => (intOf jv).toNat)
            case atStart => exact ⟨j, q', by omega, Nat.le_refl _, by go_num, rfl, rfl⟩
            case round =>
              obtain ⟨j2, q, hj2, hj2b, rfl, rfl, hsc⟩ := hrel
              go_upto_region 5 with fail
              go_cut [59] from 46 to 61 (fun bv wc => ∃ (bb : Bool) (q' : Nat), bv = .bool bb ∧ wc = W3.drewN q' ∧ Hid (bb = (decide (i2 ≤ j2) && ltInt D3[a]! D3[j2]!)))
              case first =>
                by_cases h2 : i2 ≤ j2
                · have h2' : (i2 : Int) ≤ j2 := by omega
                  have c1 := HR.out.cell j2 (by have := HS.out; omega)
                  have c2 := HR.out.cell a (by have := HS.out; omega)
                  obtain ⟨x, hx⟩ : ∃ x, x = D3[j2]! := ⟨_, rfl⟩
                  obtain ⟨y, hy⟩ : ∃ y, y = D3[a]! := ⟨_, rfl⟩
                  rw [← hx] at c1
                  rw [← hy] at c2
                  have HX : Hid (x = D3[j2]!) := hx
                  have HY : Hid (y = D3[a]!) := hy
                  have g1 : (j2 : Int) < n := by omega
                  have g2 : (a : Int) < n := by omega
                  clear hx hy
                  go_quiet ((go_at_call 30; first | exact Calls.quiet_of_same (less_any _ _ _) | exact less_drew _ _ _ _ _))
                  go_wp2_with fail
                  go_meet
                  exact ⟨_, _, rfl, World.drewN_drewN .., by rw [← HX.out, ← HY.out, decide_eq_true h2, Bool.true_and]; rfl⟩
                · have h2' : decide ((i2 : Int) ≤ j2) = false := by simp; omega
                  go_quiet (fail)
                  go_wp2_with fail
                  go_meet
                  exact ⟨false, _, rfl, World.drewN_drewN .., by rw [decide_eq_false h2, Bool.false_and]; rfl⟩
              case rest =>
                obtain ⟨bb, q', rfl, rfl, hbb⟩ := hcut
                cases bb
                · have HJj2 : Hid (j2 = scanDown (fun x => ltInt D3[a]! x) D3 i2 (j)) := by
                    have h := hsc.out
                    rw [scanDown_stop (fun x => ltInt D3[a]! x) D3 i2 j2 hbb.out.symm] at h
                    exact h
                  clear hsc hbb
                  by_cases hgt2 : i2 > j2
                  · have hgt2' : (j2 : Int) < i2 := by omega
                    go_wp2_with fail
                    go_ret
                    have e : partitionEqual ltInt d a (b + 1) pv = (i2, D3) := by
                      unfold partitionEqual
                      rw [← HD1.out, Nat.add_sub_cancel, ← hpl.out, partEqLoop_eq a i j D3 i2 j2 HIi2.out HJj2.out hi2 hj2b, if_pos hgt2]
                    rw [e]
                    exact ⟨rfl, HR.out, belN hbel _⟩
                  · have hgt2' : ¬ (j2 : Int) < i2 := by omega
                    go_upto_region 8 with fail
                    go_cut [] from 29 to 82 (fun wc => Row wc blk (swp D3 (i2) (j2)) ∧ Below blk w wc)
                    case first =>
                      have c1 := HR.out.cell (i2) (by have := HS.out; omega)
                      have c2 := HR.out.cell (j2) (by have := HS.out; omega)
                      have f1 := HR.out.free (i2)
                      have f2 := HR.out.free (j2)
                      obtain ⟨x, hx⟩ : ∃ x, x = D3[i2]! := ⟨_, rfl⟩
                      obtain ⟨y, hy⟩ : ∃ y, y = D3[j2]! := ⟨_, rfl⟩
                      have hsw := HR.out.swap (i2) (j2)
                      rw [← hx] at c1
                      rw [← hy] at c2
                      rw [← hx, ← hy] at hsw
                      have HSW : Hid (Row ((W3.setCell ⟨blk, i2, none⟩ (.int .u64 y)).setCell ⟨blk, j2, none⟩ (.int .u64 x)) blk (swp D3 (i2) (j2))) := hsw
                      have HBL : Hid (Below blk w ((W3.setCell ⟨blk, i2, none⟩ (.int .u64 y)).setCell ⟨blk, j2, none⟩ (.int .u64 x))) := (hbel.setCell (Nat.le_refl _) _).setCell (Nat.le_refl _) _
                      have g1 : ((i2 : Nat) : Int) < n := by have := HS.out; omega
                      have g2 : ((j2 : Nat) : Int) < n := by have := HS.out; omega
                      by_cases hij : i2 = j2
                      · have hxy : x = y := by rw [hx, hy, hij]
                        subst hxy
                        clear hx hy hsw
                        subst hij
                        go_region
                        go_wp2_with fail
                        go_meet
                        exact ⟨HSW.out, HBL.out.os, HBL.out.tape, HBL.out.output, HBL.out.size, HBL.out.block⟩
                      · clear hx hy hsw
                        go_region
                        go_wp2_with fail
                        go_meet
                        exact ⟨HSW.out, HBL.out.os, HBL.out.tape, HBL.out.output, HBL.out.size, HBL.out.block⟩
                    case rest =>
                      obtain ⟨hr1, hb1⟩ := hcut
                      obtain ⟨W4, rfl⟩ : ∃ W4, W4 = wc := ⟨_, rfl⟩
                      obtain ⟨D4, hD4⟩ : ∃ D4, D4 = swp D3 (i2) (j2) := ⟨_, rfl⟩
                      have hz1 : D4.size = n := by rw [hD4, size_swp]; exact HS.out
                      rw [← hD4] at hr1
                      have HD4 : Hid (D4 = swp D3 (i2) (j2)) := hD4
                      clear HR HS hD4 hbel
                      have HR : Hid (Row W4 blk D4) := hr1
                      have HS : Hid (D4.size = n) := hz1
                      have hbel : Below blk w W4 := hb1
                      clear hr1 hb1 hz1
                      have hpl2 : Hid (partEqLoop ltInt a (i2 + 1) (j2 - 1) D4 = partEqLoop ltInt a (a + 1) b D1) := by
                        rw [← hpl.out, partEqLoop_eq a i j D3 i2 j2 HIi2.out HJj2.out hi2 hj2b, if_neg hgt2, HD4.out]
                        exact rfl
                      go_wp2_with fail
                      go_roundw
                      case rel =>
                        first
                          | exact ⟨i2 + 1, j2 - 1, D4, by omega, by omega, by omega, by omega, by go_num, by go_num, HS.out, HR.out, hpl2, hbel⟩
                          | (repeat apply Exists.intro; exact ⟨⟨i2 + 1, j2 - 1, D4, by omega, by omega, by omega, by omega, by go_num, by go_num, HS.out, HR.out, hpl2, hbel⟩, rfl⟩)
                      case measure => simp [intOf] <;> omega
                · have hb1 : i2 ≤ j2 := by
                    have := hbb.out
                    simp at this
                    omega
                  obtain ⟨j2, rfl⟩ : ∃ m, j2 = m + 1 := ⟨j2 - 1, by omega⟩
                  go_wp2_with fail
                  go_roundw
                  case rel =>
                    have r5 : Hid (scanDown (fun x => ltInt D3[a]! x) D3 i2 j2 = scanDown (fun x => ltInt D3[a]! x) D3 i2 (j)) := by rw [← scanDown_step (fun x => ltInt D3[a]! x) D3 i2 j2 hbb.out.symm]; exact hsc
                    first
                      | exact ⟨j2, q', by omega, by omega, by go_num, rfl, r5⟩
                      | (repeat apply Exists.intro; exact ⟨⟨j2, q', by omega, by omega, by go_num, rfl, r5⟩, rfl⟩)
                  case measure => simp [intOf] <;> omega
          · have hb1 : i2 ≤ j := by
              have := hbb.out
              simp at this
              omega
            go_wp2_with fail
            go_roundw
            case rel =>
              have r5 : Hid (scanUp (fun x => !ltInt D3[a]! x) D3 j (i2 + 1) = scanUp (fun x => !ltInt D3[a]! x) D3 j (i)) := by rw [← scanUp_step (fun x => !ltInt D3[a]! x) D3 j i2 hbb.out.symm]; exact hsc
              first
                | exact ⟨i2 + 1, q', by omega, by omega, by go_num, rfl, r5⟩
                | (repeat apply Exists.intro; exact ⟨⟨i2 + 1, q', by omega, by omega, by go_num, rfl, r5⟩, rfl⟩)
            case measure => simp [intOf] <;> omega
end Go.Proofs.Ybulkbaha
