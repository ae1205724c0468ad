import Derived.Test.YbulkbahaSrt9
namespace Go.Proofs.Ybulkbaha
open Go.RowKit Go.Sort

set_option maxRecDepth 100000 in
set_option maxHeartbeats 8000000 in
theorem pdqsort_any (m : Nat) : ∀ (blk n a b limit : Nat) (d : Array Int) (w : World), b - a = m → Row w blk d → d.size = n → n ≤ 1024 → a ≤ b → b ≤ n → limit ≤ 64 →
    Calls Yba.prog 19 #[.slice (some ⟨blk, 0, none⟩) n n, .int .i64 a, .int .i64 b, .int .i64 limit] w fun e w' => e = .returned (.tuple #[]) ∧ Row w' blk (pdq ltInt d a b limit true true) ∧ (pdq ltInt d a b limit true true).size = n ∧ Below blk w w' := by
  induction m using Nat.strongRecOn with
  | ind m ih =>
  intro blk n a0 b0 limit d w hm hr hn hn2 hab hb hlim
  have HIH : Hid (∀ k, k < m → ∀ (a b limit : Nat) (d : Array Int) (w : World), b - a = k → Row w blk d → d.size = n → a ≤ b → b ≤ n → limit ≤ 64 →
    Calls Yba.prog 19 #[.slice (some ⟨blk, 0, none⟩) n n, .int .i64 a, .int .i64 b, .int .i64 limit] w fun e w' => e = .returned (.tuple #[]) ∧ Row w' blk (pdq ltInt d a b limit true true) ∧ (pdq ltInt d a b limit true true).size = n ∧ Below blk w w') :=
    fun k hk a b limit d w h1 h2 h3 h4 h5 h6 => ih k hk blk n a b limit d w h1 h2 h3 hn2 h4 h5 h6
  have HMM : Hid (b0 - a0 = m) := hm
  obtain ⟨T, hT⟩ : ∃ T, T = pdq ltInt d a0 b0 limit true true := ⟨_, rfl⟩
  rw [← hT]
  have HTT : Hid (pdq ltInt d a0 b0 limit true true = T) := hT.symm
  clear ih hm hT
  go_enter Yba.func19, Yba.ntmps19
  go_wp2_with fail
  go_loopw [1, 2, 3, 8, 9] (fun av bv lv wbv wpv wr => ∃ (a b l : Nat) (wb wp : Bool) (d1 : Array Int), a0 ≤ a ∧ a ≤ b ∧ b ≤ b0 ∧ l ≤ 64 ∧ av = .int .i64 a ∧ bv = .int .i64 b ∧ lv = .int .i64 l ∧ wbv = .bool wb ∧ wpv = .bool wp ∧ d1.size = n ∧ Row wr blk d1 ∧ Hid (pdq ltInt d1 a b l wb wp = T) ∧ Below blk w wr) (fun av bv _ _ _ _ => (intOf bv - intOf av).toNat)
  case atStart => exact ⟨a0, b0, limit, true, true, d, by omega, by omega, by omega, hlim, rfl, rfl, rfl, rfl, rfl, hn, hr, HTT, Below.refl _ _⟩
  case round =>
    clear hr hn HTT
    obtain ⟨a, b, l, wb, wp, D1, ha, hab1, hbb0, hl, rfl, rfl, rfl, rfl, rfl, hs, hr, hp, hbel⟩ := hrel
    obtain ⟨W1, rfl⟩ : ∃ W1, W1 = wr := ⟨_, rfl⟩
    have HPS : Hid (_ = T) := (pdq_step D1 a b l wb wp (by omega)).symm.trans hp.out
    clear hp
    by_cases h12 : b - a ≤ 12
    · have h12' : (b : Int) - a ≤ 12 := by omega
      have HP2 : Hid (insertionSort ltInt D1 a b = T) := by have h := HPS.out; rw [if_pos h12] at h; exact h
      clear HPS
      go_wp2_with fail
      refine (insertionSort_any blk n a b D1 _ hr hs hn2 hab1 (by omega)).mono ?_
      rintro e w1 ⟨rfl, hr1, hb1⟩
      go_wp2_with fail
      go_returns
      have hz := (insertionSort_holds (lt := ltInt) swo_ltInt D1 a b hab1 (by omega)).1.1
      rw [HP2.out] at hr1 hz
      exact ⟨rfl, hr1, hz.trans hs, hbel.trans hb1⟩
    · have h12' : ¬ (b : Int) - a ≤ 12 := by omega
      by_cases hl0 : l = 0
      · subst hl0
        have HP2 : Hid (heapSort ltInt D1 a b = T) := by have h := HPS.out; rw [if_neg h12, if_pos rfl] at h; exact h
        clear HPS
        go_wp2_with fail
        refine (heapSort_any blk n a b D1 _ hr hs hn2 (by omega) (by omega)).mono ?_
        rintro e w1 ⟨rfl, hr1, hb1⟩
        go_wp2_with fail
        go_returns
        have hz := (heapSort_holds (lt := ltInt) swo_ltInt D1 a b hab1 (by omega)).1.1
        rw [HP2.out] at hr1 hz
        exact ⟨rfl, hr1, hz.trans hs, hbel.trans hb1⟩
      · have hl0' : ¬ (l : Int) = 0 := by omega
        have HPC : Hid (pdqC (if !wb then breakPatterns D1 a b else D1) a b (if !wb then l - 1 else l) wb wp = T) := by have h := HPS.out; rw [if_neg h12, if_neg hl0] at h; exact h
        have hab2 : a + 12 < b := by omega
        have HR : Hid (Row W1 blk D1) := hr
        have HS : Hid (D1.size = n) := hs
        clear HPS hr hs
        go_upto_if 35 with fail
        go_cut [3] from 19 to 133 (fun lv wc => ∃ (l1 : Nat) (d2 : Array Int), lv = .int .i64 l1 ∧ l1 ≤ 64 ∧ d2.size = n ∧ Row wc blk d2 ∧ Below blk w wc ∧ Hid (pdqC d2 a b l1 wb wp = T))
        case first =>
          cases wb
          · go_wp2_with fail
            refine (breakPatterns_any blk n a b D1 _ HR.out HS.out hn2 (by omega) (by omega)).mono ?_
            rintro e w1 ⟨rfl, hr1, hb1⟩
            go_wp2_with fail
            go_meet
            exact ⟨l - 1, breakPatterns D1 a b, by go_num, by omega, by rw [size_breakPatterns]; exact HS.out, hr1, hbel.trans hb1, HPC.out⟩
          · go_wp2_with fail
            go_meet
            exact ⟨l, D1, rfl, hl, HS.out, HR.out, hbel, HPC.out⟩
        case rest =>
          clear HR HS hbel HPC
          obtain ⟨l1, D2, rfl, hl1, hs, hr, hbel, hpc⟩ := hcut
          obtain ⟨W2, rfl⟩ : ∃ W2, W2 = wc := ⟨_, rfl⟩
          have HR : Hid (Row W2 blk D2) := hr
          have HS : Hid (D2.size = n) := hs
          have hcp := choosePivot_holds ltInt D2 a b (by omega)
          clear hr hs
          go_wp2_with fail
          refine (choosePivot_any blk n a b D2 _ HR.out HS.out hn2 (by omega) (by omega)).mono ?_
          rintro e w3 ⟨rfl, hb3⟩
          obtain ⟨P, hP⟩ : ∃ P, P = choosePivot ltInt D2 a b := ⟨_, rfl⟩
          rw [← hP] at hcp ⊢
          have HPC : Hid ((if P.2 = .decreasing then pdqD (reverseRange D2 a b) a b ((b - 1) - (P.1 - a)) l1 true wb wp else pdqD D2 a b P.1 l1 (decide (P.2 = .increasing)) wb wp) = T) := by
            have h := hpc.out
            unfold pdqC at h
            rw [← hP] at h
            exact h
          have hR3 : Row w3 blk D2 := HR.out.below hb3
          have hB3 : Below blk w w3 := hbel.trans (hb3.mono (Nat.le_of_lt HR.out.lt))
          clear HR hpc hP hb3 hbel
          have HR : Hid (Row w3 blk D2) := hR3
          have hbel : Below blk w w3 := hB3
          clear hR3 hB3
          obtain ⟨p0, hint⟩ := P
          simp only at hcp HPC
          go_upto_if 50 with fail
          go_cut [11, 12] from 19 to 133 (fun pv hv wc => ∃ (p : Nat) (inc : Bool) (hI : Int) (d3 : Array Int), a ≤ p ∧ p < b ∧ pv = .int .i64 p ∧ hv = .int .i64 hI ∧ (inc = decide (hI = 1)) ∧ d3.size = n ∧ Row wc blk d3 ∧ Below blk w wc ∧ Hid (pdqD d3 a b p l1 inc wb wp = T))
          case first =>
            cases hint
            · simp only [hintI]
              go_wp2_with fail
              go_meet
              exact ⟨p0, false, 0, D2, hcp.1, hcp.2, rfl, rfl, rfl, HS.out, HR.out, hbel, HPC.out⟩
            · simp only [hintI]
              go_wp2_with fail
              go_meet
              exact ⟨p0, true, 1, D2, hcp.1, hcp.2, rfl, rfl, rfl, HS.out, HR.out, hbel, HPC.out⟩
            · simp only [hintI]
              go_wp2_with fail
              refine (reverseRange_any blk n a b D2 _ HR.out HS.out hn2 (by omega) (by omega)).mono ?_
              rintro e w4 ⟨rfl, hr4, hb4⟩
              go_wp2_with fail
              go_meet
              exact ⟨(b - 1) - (p0 - a), true, 1, reverseRange D2 a b, by omega, by omega, by go_num, rfl, rfl, by rw [(reverseRange_holds D2 a b (by omega) (by have := HS.out; omega)).1]; exact HS.out, hr4, hbel.trans hb4, HPC.out⟩
          case rest =>
            clear HR HS hbel HPC hcp
            obtain ⟨p, inc, hI, D3, hp1, hp2, rfl, rfl, hinc, hs, hr, hbel, hpd⟩ := hcut
            obtain ⟨W3, rfl⟩ : ∃ W3, W3 = wc := ⟨_, rfl⟩
            have HR : Hid (Row W3 blk D3) := hr
            have HS : Hid (D3.size = n) := hs
            clear hr hs
            go_upto_region 15 with fail
            go_cut [68] from 19 to 133 (fun cv wc => cv = .bool (wb && wp && inc) ∧ Row wc blk D3 ∧ Below blk w wc)
            case first =>
              have h : inc = decide (hI = 1) := hinc
              clear hinc
              by_cases hI1 : hI = 1
              · subst hI1
                rw [decide_eq_true rfl] at h
                subst h
                cases wb <;> cases wp <;> (go_wp2_with fail; go_meet; exact ⟨rfl, HR.out, hbel⟩)
              · rw [decide_eq_false hI1] at h
                subst h
                have h0 : (hI == 1) = false := by simpa using hI1
                cases wb <;> cases wp <;> (go_wp2_with fail; go_meet; first | exact ⟨rfl, HR.out, hbel⟩ | exact ⟨by rw [h0]; rfl, HR.out, hbel⟩)
            case rest =>
              clear hbel HR hinc
              obtain ⟨rfl, hr, hbel⟩ := hcut
              obtain ⟨W4, rfl⟩ : ∃ W4, W4 = wc := ⟨_, rfl⟩
              have HR : Hid (Row W4 blk D3) := hr
              clear hr
              go_upto_if 68 with fail
              go_cut [] from 19 to 133 (fun wc => ∃ (d4 : Array Int), d4.size = n ∧ Row wc blk d4 ∧ Below blk w wc ∧ Hid (pdqE d4 a b p l1 wb wp = T))
              case first =>
                by_cases hc : (wb && wp && inc) = true
                · have HPD : Hid ((if (partialInsertionSort ltInt D3 a b).2 then (partialInsertionSort ltInt D3 a b).1 else pdqE (partialInsertionSort ltInt D3 a b).1 a b p l1 wb wp) = T) := by
                    have h := hpd.out
                    unfold pdqD at h
                    rw [if_pos hc] at h
                    exact h
                  rw [hc]
                  clear hpd
                  go_wp2_with fail
                  refine (partialInsertionSort_any blk n a b D3 _ HR.out HS.out hn2 (by omega) (by omega)).mono ?_
                  rintro e w4 ⟨rfl, hr4, hb4⟩
                  have hz := size_partialInsertionSort a b D3
                  obtain ⟨q, hq⟩ : ∃ q, q = partialInsertionSort ltInt D3 a b := ⟨_, rfl⟩
                  rw [← hq] at hr4 hz ⊢
                  have HP2 : Hid ((if q.2 then q.1 else pdqE q.1 a b p l1 wb wp) = T) := by rw [hq]; exact HPD.out
                  clear HPD hq
                  obtain ⟨D4, ok⟩ := q
                  cases ok
                  · go_wp2_with fail
                    go_meet
                    exact ⟨D4, hz.trans HS.out, hr4, hbel.trans hb4, HP2.out⟩
                  · go_wp2_with fail
                    go_returns
                    have h : D4 = T := HP2.out
                    rw [h] at hr4 hz
                    exact ⟨rfl, hr4, hz.trans HS.out, hbel.trans hb4⟩
                · have hc' : (wb && wp && inc) = false := by simpa using hc
                  have HPD : Hid (pdqE D3 a b p l1 wb wp = T) := by
                    have h := hpd.out
                    unfold pdqD at h
                    rw [if_neg hc] at h
                    exact h
                  rw [hc']
                  go_wp2_with fail
                  go_meet
                  exact ⟨D3, HS.out, HR.out, hbel, HPD⟩
              case rest =>
                clear hbel HR HS hpd
                obtain ⟨D4, hs, hr, hbel, hpe⟩ := hcut
                obtain ⟨W5, rfl⟩ : ∃ W5, W5 = wc := ⟨_, rfl⟩
                have HR : Hid (Row W5 blk D4) := hr
                have HS : Hid (D4.size = n) := hs
                clear hr hs
                go_upto_region 17 with fail
                go_cut [87] from 19 to 133 (fun bv wc => ∃ (bb : Bool) (q : Nat), bv = .bool bb ∧ wc = W5.drewN q ∧ Hid (bb = (decide (a > 0) && !ltInt D4[a - 1]! D4[p]!)))
                case first =>
                  clear HIH HMM hpe
                  by_cases ha0 : 0 < a
                  · obtain ⟨a', rfl⟩ : ∃ m, a = m + 1 := ⟨a - 1, by omega⟩
                    have ha0' : (0 : Int) < (a' : Int) + 1 := by omega
                    have c1 := HR.out.cell a' (by have := HS.out; omega)
                    have c2 := HR.out.cell p (by have := HS.out; omega)
                    obtain ⟨x, hx⟩ : ∃ x, x = D4[a']! := ⟨_, rfl⟩
                    obtain ⟨y, hy⟩ : ∃ y, y = D4[p]! := ⟨_, rfl⟩
                    rw [← hx] at c1
                    rw [← hy] at c2
                    have HX : Hid (x = D4[a']!) := hx
                    have HY : Hid (y = D4[p]!) := hy
                    have g1 : (a' : Int) < n := by omega
                    have g2 : (p : Int) < n := by omega
                    clear hx hy
                    go_quiet ((go_at_call 30; first | exact Calls.quiet_of_same (less_any _ _ _) | exact less_drew _ _ _ _ _))
                    go_wp2_with fail
                    go_meet
                    exact ⟨_, _, rfl, rfl, by rw [Nat.add_sub_cancel, ← HX.out, ← HY.out, decide_eq_true ha0, Bool.true_and]; rfl⟩
                  · have h2' : decide ((0 : Int) < a) = false := by simp; omega
                    go_quiet (fail)
                    go_wp2_with fail
                    go_meet
                    exact ⟨false, _, rfl, rfl, by rw [decide_eq_false ha0, Bool.false_and]; rfl⟩
                case rest =>
                  obtain ⟨bb, q, rfl, rfl, hbb⟩ := hcut
                  cases bb
                  · have HPE : Hid ((if (partition ltInt D4 a b p).1 - a < b - (partition ltInt D4 a b p).1 then
                        pdq ltInt (pdq ltInt (partition ltInt D4 a b p).2.2 a (partition ltInt D4 a b p).1 l1 true true) ((partition ltInt D4 a b p).1 + 1) b l1 (decide ((partition ltInt D4 a b p).1 - a ≥ (b - a) / 8)) (partition ltInt D4 a b p).2.1
                      else
                        pdq ltInt (pdq ltInt (partition ltInt D4 a b p).2.2 ((partition ltInt D4 a b p).1 + 1) b l1 true true) a (partition ltInt D4 a b p).1 l1 (decide (b - (partition ltInt D4 a b p).1 ≥ (b - a) / 8)) (partition ltInt D4 a b p).2.1) = T) := by
                      have h := hpe.out
                      unfold pdqE at h
                      rw [← hbb.out, if_neg (by simp)] at h
                      exact h
                    clear hbb hpe
                    have hP := partition_holds ltInt swo_ltInt D4 a b p hp1 hp2 (by have := HS.out; omega)
                    have hm1 := hP.1
                    have hm2 := hP.2.1
                    have hms := hP.2.2.1.1
                    clear hP
                    go_wp2_with fail
                    refine (partition_any blk n a b p D4 _ (HR.out.drewN q) HS.out hn2 hp1 hp2 (by omega)).mono ?_
                    rintro e w6 ⟨rfl, hr6, hb6⟩
                    obtain ⟨P, hP⟩ : ∃ P, P = partition ltInt D4 a b p := ⟨_, rfl⟩
                    rw [← hP] at hr6 hm1 hm2 hms ⊢
                    have HP2 : Hid ((if P.1 - a < b - P.1 then pdq ltInt (pdq ltInt P.2.2 a P.1 l1 true true) (P.1 + 1) b l1 (decide (P.1 - a ≥ (b - a) / 8)) P.2.1
                      else pdq ltInt (pdq ltInt P.2.2 (P.1 + 1) b l1 true true) a P.1 l1 (decide (b - P.1 ≥ (b - a) / 8)) P.2.1) = T) := by rw [hP]; exact HPE.out
                    clear HPE hP
                    obtain ⟨mid, al, D5⟩ := P
                    have hz5 : D5.size = n := hms.trans HS.out
                    have hB6 : Below blk w w6 := (belN hbel q).trans hb6
                    have hr7 : Row w6 blk D5 := hr6
                    have hm1' : a ≤ mid := hm1
                    have hm2' : mid < b := hm2
                    clear hms HR HS hbel hb6 hr6 hm1 hm2
                    have HR : Hid (Row w6 blk D5) := hr7
                    have HS : Hid (D5.size = n) := hz5
                    have hbel : Below blk w w6 := hB6
                    clear hr7 hz5 hB6
                    by_cases hlt : mid - a < b - mid
                    · have hlt' : (mid : Int) - a < b - mid := by omega
                      have HP3 : Hid (pdq ltInt (pdq ltInt D5 a mid l1 true true) (mid + 1) b l1 (decide (mid - a ≥ (b - a) / 8)) al = T) := by
                        have h := HP2.out
                        rw [if_pos hlt] at h
                        exact h
                      clear HP2
                      go_wp2_with fail
                      have H := HIH.out (mid - a) (by have := HMM.out; omega) a mid l1 D5 w6 rfl HR.out HS.out hm1' (by omega) hl1
                      refine H.mono ?_
                      rintro e w7 ⟨rfl, hr7, hz7, hb7⟩
                      obtain ⟨D6, hD6⟩ : ∃ D6, D6 = pdq ltInt D5 a mid l1 true true := ⟨_, rfl⟩
                      rw [← hD6] at hr7 hz7
                      have HP4 : Hid (pdq ltInt D6 (mid + 1) b l1 (decide (mid - a ≥ (b - a) / 8)) al = T) := by rw [hD6]; exact HP3.out
                      clear hD6 HP3 H HIH HMM HR HS
                      have hbel7 := hbel.trans hb7
                      clear hbel hb7
                      go_wp2_with fail
                      go_roundw
                      case rel =>
                        exact ⟨mid + 1, b, l1, decide (mid - a ≥ (b - a) / 8), al, D6, by omega, by omega, hbb0, hl1, by go_num, rfl, rfl, by congr 1; rw [decide_eq_decide]; omega, rfl, hz7, hr7, HP4, hbel7⟩
                      case measure => simp [intOf] <;> omega
                    · have hlt' : ¬ (mid : Int) - a < b - mid := by omega
                      have HP3 : Hid (pdq ltInt (pdq ltInt D5 (mid + 1) b l1 true true) a mid l1 (decide (b - mid ≥ (b - a) / 8)) al = T) := by
                        have h := HP2.out
                        rw [if_neg hlt] at h
                        exact h
                      clear HP2
                      go_wp2_with fail
                      have H := HIH.out (b - (mid + 1)) (by have := HMM.out; omega) (mid + 1) b l1 D5 w6 rfl HR.out HS.out (by omega) (by omega) hl1
                      rw [show ((mid + 1 : Nat) : Int) = (mid : Int) + 1 by omega] at H
                      refine H.mono ?_
                      rintro e w7 ⟨rfl, hr7, hz7, hb7⟩
                      obtain ⟨D6, hD6⟩ : ∃ D6, D6 = pdq ltInt D5 (mid + 1) b l1 true true := ⟨_, rfl⟩
                      rw [← hD6] at hr7 hz7
                      have HP4 : Hid (pdq ltInt D6 a mid l1 (decide (b - mid ≥ (b - a) / 8)) al = T) := by rw [hD6]; exact HP3.out
                      clear hD6 HP3 H HIH HMM HR HS
                      have hbel7 := hbel.trans hb7
                      clear hbel hb7
                      go_wp2_with fail
                      go_roundw
                      case rel =>
                        exact ⟨a, mid, l1, decide (b - mid ≥ (b - a) / 8), al, D6, by omega, by omega, by omega, hl1, rfl, rfl, rfl, by congr 1; rw [decide_eq_decide]; omega, rfl, hz7, hr7, HP4, hbel7⟩
                      case measure => simp [intOf] <;> omega
                  · have HPE : Hid (pdq ltInt (partitionEqual ltInt D4 a b p).2 (partitionEqual ltInt D4 a b p).1 b l1 wb wp = T) := by
                      have h := hpe.out
                      unfold pdqE at h
                      rw [← hbb.out, if_pos rfl] at h
                      exact h
                    clear hbb hpe
                    have hpr := partitionEqual_rng D4 a b p (by omega)
                    have hps := size_partitionEqual a b p D4
                    go_wp2_with fail
                    refine (partitionEqual_any blk n a b p D4 _ (HR.out.drewN q) HS.out hn2 hp1 hp2 (by omega)).mono ?_
                    rintro e w6 ⟨rfl, hr6, hb6⟩
                    obtain ⟨P, hP⟩ : ∃ P, P = partitionEqual ltInt D4 a b p := ⟨_, rfl⟩
                    rw [← hP] at hr6 hpr hps HPE ⊢
                    clear hP
                    obtain ⟨mid, D5⟩ := P
                    have hz5 : D5.size = n := hps.trans HS.out
                    have hB6 : Below blk w w6 := (belN hbel q).trans hb6
                    have hr7 : Row w6 blk D5 := hr6
                    have hm1 : a < mid := hpr.1
                    have hm2 : mid ≤ b := hpr.2
                    have HP2 : Hid (pdq ltInt D5 mid b l1 wb wp = T) := HPE.out
                    clear hps hpr HPE HR HS hbel hb6 hr6
                    go_wp2_with fail
                    go_roundw
                    case rel =>
                      first
                        | exact ⟨mid, b, l1, wb, wp, D5, by omega, hm2, hbb0, hl1, rfl, rfl, rfl, rfl, rfl, hz5, hr7, HP2, hB6⟩
                        | (repeat apply Exists.intro; exact ⟨⟨mid, b, l1, wb, wp, D5, by omega, hm2, hbb0, hl1, rfl, rfl, rfl, rfl, rfl, hz5, hr7, HP2, hB6⟩, rfl⟩)
                    case measure => simp [intOf] <;> omega
end Go.Proofs.Ybulkbaha
