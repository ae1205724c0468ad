import Derived.Test.YbulkbahaHq6
import Derived.Laws.CopyOwn
namespace Go.Proofs.Ybulkbaha
open Go.RowKit Go.Sort

theorem info22 : (Yba.prog.info? 22).map (fun i => (i.zero, i.size, i.bytes)) = some (some (.int .u64 0), 1, 8) := by kernel_rfl

/-- 'copy(dst, src)': the whole of a row of words of the call's own is written over. -/
theorem wpList_copy_words {P : Program} {w : World} {ops : Array Oper} {rest : List Oper} {o : Oper} {a : Act} {Q : Exit → Act → World → Prop} (hgd : o.guard = none) (d s : Operand) (dT sT : TypeId)
    (ho : o.op = .call { callee := .builtin .copy, args := #[d, s], argTypes := #[dT, sT] }) (elem : TypeId) (hu : P.underlying dT = some (.slice elem)) (hsz : (P.info? elem).map (·.size) = some 1)
    (g n : Nat) (ad : Addr) (sCap : Nat) (hd : a.eval d = .slice (some ⟨g, 0, none⟩) n n) (hs : a.eval s = .slice (some ad) n sCap)
    (zs : List Int) (hg : ∃ cur : Array Value, w.heap[g]? = some (.cells cur 22 (0, 0)) ∧ cur.size = n) (hn : zs.length = n)
    (hsrc : ∀ j, j < n → w.cell? (ad.add j) = some (.int .u64 (zs.getD j 0)))
    (h : ∀ w', Row w' g zs.toArray → w.grownBy w' (some g) → w'.heap.size = w.heap.size → wpList P ops Q rest (a.put o.dst (goInt n)) w') : wpList P ops Q (o :: rest) a w := by
  obtain ⟨cur, hg, hc⟩ := hg
  refine wpList_copy_own hgd d s dT sT ho elem hu hsz g 0 n n ad n sCap hd hs cur 22 hg (zs.map (Value.int .u64)) (by simp [hn]) ?_ (by simp [hn, hc]) ?_ ?_
  · intro j v hj
    have hjl : j < zs.length := by
      have := (List.getElem?_eq_some_iff.1 hj).1
      simpa using this
    rw [hsrc j (by omega), ← hj]
    simp [List.getD, hjl]
  · intro v hv
    obtain ⟨x, _, rfl⟩ := List.mem_map.1 hv
    rfl
  · rw [List.length_map, hn]
    refine h _ ?_ ⟨by simp, by simp, by simp, by simp, fun k _ hk => setRow_other _ _ _ _ (fun e => hk (by rw [e]))⟩ (by simp)
    have := setRow_heap w g cur (zs.map (Value.int .u64)).toArray 22 (0, 0) hg
    simp [List.drop_of_length_le (show cur.toList.length ≤ n by simp [hc])]
    unfold Row wordsV
    rw [this]
    simp

theorem made_row {w : World} {g n : Nat} {xs : List Value} (h : w.ownsRow 0 22 1 (.slice (some ⟨g, 0, none⟩) n n) n xs) : ∃ cur : Array Value, w.heap[g]? = some (.cells cur 22 (0, 0)) ∧ cur.size = n := by
  rcases h.2 with ⟨h', _⟩ | ⟨g', cap', cur, h', hb, hg, hnc, hcm, hcs, htake⟩
  · simp at h'
  · simp only [Value.slice.injEq, Option.some.injEq, Addr.mk.injEq, and_true, true_and] at h'
    obtain ⟨rfl, rfl⟩ := h'
    exact ⟨cur, hg, by simpa using hcs⟩

set_option maxHeartbeats 400000 in
theorem heapSorts_great (a : Option Addr) (n cap : Nat) (hn : 1024 < n) (hm : n ≤ maxLen) (w : World) :
    Calls Yba.prog 6 #[.slice a n cap] w fun e w' => e = .returned (.bool true) ∧ RowKit.Below w.heap.size w w' := by
  unfold maxLen at hm
  have h1 : (1024 : Int) < n := by omega
  go_enter Yba.func6, Yba.ntmps6
  go_wp2
  go_ret
  exact ⟨rfl, RowKit.Below.refl _ _⟩

set_option maxRecDepth 100000 in
set_option maxHeartbeats 4000000 in
theorem heapSorts_mid (b off m cap : Nat) (zs : List Int) (w : World) (hn2 : m + 1 ≤ 1024) (hzl : zs.length = m + 1)
    (hc : ∀ j, j < m + 1 → w.cell? ⟨b, off + j, none⟩ = some (.int .u64 (zs.getD j 0))) (hb : b < w.heap.size) :
    Calls Yba.prog 6 #[.slice (some ⟨b, off, none⟩) (m + 1) cap] w fun e w' => e = .returned (.bool true) ∧ RowKit.Below w.heap.size w w' := by
  have h1 : decide ((1024 : Int) < (m : Int) + 1) = false := by simp; omega
  obtain ⟨i0, hi, hz0, hz1, hz2⟩ := info_parts info22
  have HC : Hid (∀ j, j < m + 1 → w.cell? ⟨b, off + j, none⟩ = some (.int .u64 (zs.getD j 0))) := hc
  clear hc
  go_enter Yba.func6, Yba.ntmps6
  go_wp2_with fail
  go_loopw [5] (fun iv wr => ∃ k : Nat, k ≤ m + 1 ∧ iv = .int .i64 k ∧ PushSt w zs k wr) (fun iv _ => m + 1 - (intOf iv).toNat)
  case atStart => exact ⟨0, Nat.zero_le _, rfl, PushSt.start w zs⟩
  case round =>
    obtain ⟨k, hk, rfl, hst⟩ := hrel
    obtain ⟨W1, rfl⟩ : ∃ W1, W1 = wr := ⟨_, rfl⟩
    have hbel : RowKit.Below w.heap.size w W1 := by
      obtain ⟨_, _, _, _, _, _, _, _, _, h⟩ := hst
      exact h
    by_cases hlt : k < m + 1
    · have hlt' : (k : Int) < (m : Int) + 1 := by omega
      have hcx : W1.cell? ⟨b, off + k, none⟩ = some (.int .u64 (zs.getD k 0)) := (hbel.cell (by exact hb)).trans (HC.out k hlt)
      obtain ⟨x, hx⟩ : ∃ x, x = zs.getD k 0 := ⟨_, rfl⟩
      rw [← hx] at hcx
      have HX : Hid (x = zs.getD k 0) := hx
      have HST : Hid (PushSt w zs k W1) := hst
      clear hx hst
      go_wp2_with fail
      refine (pushSt_call w zs k W1 HST.out (by omega) (by omega) _ (by rw [← HX.out]; rfl)).mono ?_
      rintro e w2 ⟨rfl, hst2⟩
      go_wp2_with fail
      go_roundw
      case rel => exact ⟨k + 1, by omega, by go_num, hst2⟩
      case measure => simp [intOf] <;> omega
    · have hkn : k = m + 1 := by omega
      subst hkn
      have HST : Hid (PushSt w zs (m + 1) W1) := hst
      clear hst hlt hk
      go_wp2_with (first
        | (at_make; refine wpList_make_full _ rfl _ _ 31 rfl 0 22 i0 (.int .u64 0) 1 Yba.underlying31 hi hz0 hz1 _ _ _ _ (m + 1) rfl rfl (by omega) (by omega) (by rw [hz2]; omega) (by unfold maxLen; omega) (Nat.zero_le _) ?_; intro w2 hown2 hg2)
        | (refine wpList_copy_words rfl (.tmp 32) (.tmp 33) 31 31 rfl 22 Yba.underlying31 (by rw [hi]; simp [hz1]) W1.heap.size (m + 1) ⟨b, off, none⟩ cap rfl rfl zs ?hg hzl ?hsrc ?_))
      case hg => exact made_row hown2
      case hsrc =>
        intro j hj
        rw [Go.WideShapes.add_plain]
        exact hg2.cell ((hbel.cell (by exact hb)).trans (HC.out j hj)) (by simp)
      intro w3 hr3 hg3 hs3
      have hbw3 : RowKit.Below W1.heap.size W1 w3 := ((RowKit.Below.refl _ W1).grown hg2 (Nat.le_refl _) (by simp)).grown hg3 hg2.size (by intro k hk; simp at hk; omega)
      clear hown2 hg2 hg3 hs3
      have HSO : Hid _ := sort_any W1.heap.size (m + 1) zs.toArray w3 hr3 (by simp [hzl]) hn2
      have HB3 : Hid (RowKit.Below W1.heap.size W1 w3) := hbw3
      clear hr3 hbw3
      go_wp2_with fail
      refine Calls.mono HSO.out ?_
      rintro e w4 ⟨rfl, hr4, hz4, hb4⟩
      obtain ⟨S, hS⟩ : ∃ S, S = sort ltInt zs.toArray := ⟨_, rfl⟩
      rw [← hS] at hr4 hz4
      have HPS : Hid (PopSt w W1.heap.size S 0 w4) := PopSt.start HST.out hzl (Nat.le_refl _) (HB3.out.trans hb4) hr4 hS
      have HSS : Hid (SortedIn ltInt 0 S.size S) := by
        have h5 := (sort_sorts ltInt swo_ltInt zs.toArray).2
        rw [← hS, show zs.toArray.size = S.size by rw [hz4]; simp [hzl]] at h5
        exact h5
      have HZ : Hid (S.size = m + 1) := hz4
      clear hr4 hz4 hb4 hS HSO HB3 HST hbel HC
      go_wp2_with fail
      go_loopw [7] (fun iv wr => ∃ k : Nat, k ≤ m + 1 ∧ iv = .int .i64 k ∧ PopSt w W1.heap.size S k wr) (fun iv _ => m + 1 - (intOf iv).toNat)
      case atStart => exact ⟨0, Nat.zero_le _, rfl, HPS.out⟩
      case round =>
        clear HPS
        obtain ⟨k, hk, rfl, hst⟩ := hrel
        obtain ⟨W2, rfl⟩ : ∃ W2, W2 = wr := ⟨_, rfl⟩
        have HST : Hid (PopSt w W1.heap.size S k W2) := hst
        clear hst
        by_cases hlt : k < m + 1
        · have hlt' : (k : Int) < (m : Int) + 1 := by omega
          go_wp2_with fail
          refine (popSt_call w W1.heap.size S k W2 HST.out (by have := HZ.out; omega) (by have := HZ.out; omega) HSS.out).mono ?_
          rintro e w5 ⟨x, rfl, hcx, hst5⟩
          have hcy : w5.cell? ⟨W1.heap.size, k, none⟩ = some (.int .u64 S[k]!) := by
            obtain ⟨_, _, _, _, _, _, _, _, _, _, _, hrow, _⟩ := hst5
            exact hrow.cell k (by have := HZ.out; omega)
          obtain ⟨y, hy⟩ : ∃ y, y = S[k]! := ⟨_, rfl⟩
          rw [← hy] at hcx hcy
          have HST5 : Hid (PopSt w W1.heap.size S (k + 1) w5) := hst5
          have hta := assert33t (some ⟨x, 0, none⟩)
          clear HST hst5 hy
          go_wp2_with fail
          go_quiet (fail)
          go_wp2_with fail
          go_roundw
          case rel =>
            obtain ⟨g, cp, K, bs, p1, p2, p3, p4, p5, p6, p7, p8, p9⟩ := HST5.out
            exact ⟨k + 1, by omega, by go_num, g, cp, K, bs, p1.drewN _, p2, p3, p4, p5, p6, p7, p8.drewN _, belN p9 _⟩
          case measure => simp [intOf] <;> omega
        · have hkn : k = m + 1 := by omega
          subst hkn
          obtain ⟨g, cp, hqc⟩ : ∃ g cp, W2.cell? ⟨w.heap.size + 1, 0, none⟩ = some (.slice (some ⟨g, 0, none⟩) 0 cp) := by
            obtain ⟨g, cp, K, bs, p1, p2, _⟩ := HST.out
            have h6 := p1.qcell
            rw [show bs.size = 0 by have := HZ.out; omega] at h6
            exact ⟨g, cp, h6⟩
          have hbel2 : RowKit.Below w.heap.size w W2 := by
            obtain ⟨_, _, _, _, _, _, _, _, _, _, _, _, p9⟩ := HST.out
            exact p9
          clear hlt hk
          go_wp2
          go_ret
          exact ⟨rfl, hbel2⟩

set_option maxRecDepth 100000 in
set_option maxHeartbeats 4000000 in
theorem heapSorts_zero (a : Option Addr) (cap : Nat) (w : World) :
    Calls Yba.prog 6 #[.slice a 0 cap] w fun e w' => e = .returned (.bool true) ∧ RowKit.Below w.heap.size w w' := by
  obtain ⟨i0, hi, hz0, hz1, hz2⟩ := info_parts info22
  have hq0 : ((w.alloc (.cells #[] 33)).alloc (.cells #[.slice (some ⟨w.heap.size, 0, none⟩) 0 0] 38)).heap[w.heap.size + 1]? = some (.cells #[.slice (some ⟨w.heap.size, 0, none⟩) 0 0] 38) := by
    have := heap_alloc_new (w.alloc (.cells #[] 33)) (.cells #[.slice (some ⟨w.heap.size, 0, none⟩) 0 0] 38)
    simpa using this
  have hb0 : RowKit.Below w.heap.size w ((w.alloc (.cells #[] 33)).alloc (.cells #[.slice (some ⟨w.heap.size, 0, none⟩) 0 0] 38)) := ((RowKit.Below.refl _ w).alloc (Nat.le_refl _) _).alloc (by simp) _
  obtain ⟨W1, hW1⟩ : ∃ W1, W1 = (w.alloc (.cells #[] 33)).alloc (.cells #[.slice (some ⟨w.heap.size, 0, none⟩) 0 0] 38) := ⟨_, rfl⟩
  go_enter Yba.func6, Yba.ntmps6
  go_wp2_with fail
  rw [← hW1] at hq0 hb0 ⊢
  clear hW1
  go_loopw [5] (fun iv wr => iv = .int .i64 0 ∧ wr = W1) (fun _ _ => 0)
  case atStart => exact ⟨rfl, rfl⟩
  case round =>
    obtain ⟨rfl, rfl⟩ := hrel
    have HQ0 : Hid (_ = _) := hq0
    have HB0 : Hid (RowKit.Below w.heap.size w wr) := hb0
    clear hq0 hb0
    obtain ⟨W2, rfl⟩ : ∃ W2, W2 = wr := ⟨_, rfl⟩
    go_wp2_with (first
      | (at_make; refine wpList_make_full _ rfl _ _ 31 rfl 0 22 i0 (.int .u64 0) 1 Yba.underlying31 hi hz0 hz1 _ _ _ _ 0 rfl rfl rfl rfl (by omega) (by unfold maxLen; omega) (Nat.zero_le _) ?_; intro w2 hown2 hg2)
      | (refine wpList_copy_nothing rfl (.tmp 32) (.tmp 33) 31 31 rfl 22 Yba.underlying31 (by rw [hi]; simp [hz1]) (some ⟨W2.heap.size, 0, none⟩) a 0 0 0 cap rfl rfl rfl ?_)
      | fail)
    have hr2 : Row w2 W2.heap.size #[] := by
      obtain ⟨cur, h1, h2⟩ := made_row hown2
      rw [Array.size_eq_zero_iff.1 h2] at h1
      unfold Row wordsV
      rw [h1]
      simp
    have hbw : RowKit.Below W2.heap.size W2 w2 := (RowKit.Below.refl _ W2).grown hg2 (Nat.le_refl _) (by simp)
    have hqlt : w.heap.size + 1 < W2.heap.size := lt_of_block HQ0.out
    refine (sort_any W2.heap.size 0 #[] w2 hr2 rfl (by omega)).mono ?_
    rintro e w3 ⟨rfl, -, -, hb3⟩
    have hbw3 := hbw.trans hb3
    have hq3 : w3.cell? ⟨w.heap.size + 1, 0, none⟩ = some (.slice (some ⟨w.heap.size, 0, none⟩) 0 0) := by
      have h5 := (hbw3.block (w.heap.size + 1) hqlt).trans HQ0.out
      simp [World.cell?, h5]
    have hb4 : RowKit.Below w.heap.size w w3 := HB0.out.trans (hbw3.mono (by omega))
    clear hr2 hbw hqlt hb3 hbw3 hown2 hg2 HQ0 HB0
    go_wp2_with fail
    go_loopw [7] (fun iv wr => iv = .int .i64 0 ∧ wr = w3) (fun _ _ => 0)
    case atStart => exact ⟨rfl, rfl⟩
    case round =>
      obtain ⟨rfl, rfl⟩ := hrel
      go_wp2
      go_ret
      exact ⟨rfl, hb4⟩
end Go.Proofs.Ybulkbaha
