import Derived.Test.YbulkbahaSrt11
namespace Go.Proofs.Ybulkbaha
open Go.RowKit Go.Sort

/-- What else than the blocks in S stays. -/
structure Fr (S : Nat → Prop) (w w' : World) : Prop where
  os : w'.os = w.os
  tape : w'.tape = w.tape
  output : w'.output = w.output
  size : w.heap.size ≤ w'.heap.size
  block : ∀ k, k < w.heap.size → ¬ S k → w'.heap[k]? = w.heap[k]?

theorem Fr.refl (S : Nat → Prop) (w : World) : Fr S w w := ⟨rfl, rfl, rfl, Nat.le_refl _, fun _ _ _ => rfl⟩
theorem Fr.trans {S : Nat → Prop} {a b c : World} (h1 : Fr S a b) (h2 : Fr S b c) : Fr S a c :=
  ⟨h2.os.trans h1.os, h2.tape.trans h1.tape, h2.output.trans h1.output, Nat.le_trans h1.size h2.size, fun k hk hs => (h2.block k (Nat.lt_of_lt_of_le hk h1.size) hs).trans (h1.block k hk hs)⟩
theorem Fr.mono {S T : Nat → Prop} {a b : World} (h : Fr S a b) (hst : ∀ k, S k → T k) : Fr T a b :=
  ⟨h.os, h.tape, h.output, h.size, fun k hk hs => h.block k hk (fun x => hs (hst k x))⟩
theorem Fr.drewN {S : Nat → Prop} {a b : World} (h : Fr S a b) (n : Nat) : Fr S a (b.drewN n) := ⟨h.os, h.tape, h.output, h.size, h.block⟩
theorem Fr.setCell {S : Nat → Prop} {a b : World} (h : Fr S a b) (x : Addr) (hx : S x.block) (v : Value) : Fr S a (b.setCell x v) :=
  ⟨h.os, h.tape, h.output, by simpa using h.size, fun k hk hs => (RowKit.Below.heap_setCell b x v k (fun e => hs (e ▸ hx))).trans (h.block k hk hs)⟩
theorem Fr.alloc {S : Nat → Prop} {a b : World} (h : Fr S a b) (o : Obj) : Fr S a (b.alloc o) :=
  ⟨h.os, h.tape, h.output, Nat.le_trans h.size (by simp), fun k hk hs => (RowKit.Below.heap_alloc b o k (Nat.lt_of_lt_of_le hk h.size)).trans (h.block k hk hs)⟩
theorem Fr.below {S : Nat → Prop} {a b : World} {B : Nat} (h : Fr S a b) (hB : B ≤ a.heap.size) (hS : ∀ k, S k → B ≤ k) : RowKit.Below B a b :=
  ⟨h.os, h.tape, h.output, h.size, fun k hk => h.block k (by omega) (fun e => by have := hS k e; omega)⟩

/-- The queue at block qb: a slice of the row at block g, room cap; its buckets lie at the blocks bs; bucket b's start is K b. -/
structure HQ (w : World) (qb g cap : Nat) (K : Nat → Int) (bs : Array Nat) : Prop where
  q : w.heap[qb]? = some (.cells #[.slice (some ⟨g, 0, none⟩) bs.size cap] 38 (0, 0))
  room : bs.size ≤ cap
  most : cap ≤ maxLen
  row : ∃ cur, w.heap[g]? = some (.cells cur 33 (0, 0)) ∧ cur.size = cap ∧ ∀ i, i < bs.size → cur[i]? = some (.pointer (some ⟨bs[i]!, 0, none⟩))
  key : ∀ i, i < bs.size → w.cell? ⟨bs[i]!, 3, none⟩ = some (.int .u64 (K bs[i]!)) ∧ bs[i]! ≠ qb ∧ bs[i]! ≠ g
  ne : qb ≠ g

theorem HQ.cell {w : World} {qb g cap : Nat} {K : Nat → Int} {bs : Array Nat} (h : HQ w qb g cap K bs) (i : Nat) (hi : i < bs.size) : w.cell? ⟨g, i, none⟩ = some (.pointer (some ⟨bs[i]!, 0, none⟩)) := by
  obtain ⟨cur, h1, h2, h3⟩ := h.row
  simp [World.cell?, h1, h3 i hi]
theorem HQ.free {w : World} {qb g cap : Nat} {K : Nat → Int} {bs : Array Nat} (h : HQ w qb g cap K bs) (i : Nat) : w.frozen? ⟨g, i, none⟩ = false := by
  obtain ⟨cur, h1, h2, h3⟩ := h.row
  simp [World.frozen?, h1]
theorem HQ.qcell {w : World} {qb g cap : Nat} {K : Nat → Int} {bs : Array Nat} (h : HQ w qb g cap K bs) : w.cell? ⟨qb, 0, none⟩ = some (.slice (some ⟨g, 0, none⟩) bs.size cap) := by
  simp [World.cell?, h.q]
theorem HQ.qfree {w : World} {qb g cap : Nat} {K : Nat → Int} {bs : Array Nat} (h : HQ w qb g cap K bs) : w.frozen? ⟨qb, 0, none⟩ = false := by
  simp [World.frozen?, h.q]
theorem HQ.drewN {w : World} {qb g cap : Nat} {K : Nat → Int} {bs : Array Nat} (h : HQ w qb g cap K bs) (n : Nat) : HQ (w.drewN n) qb g cap K bs := ⟨h.q, h.room, h.most, h.row, h.key, h.ne⟩
theorem HQ.swap {w : World} {qb g cap : Nat} {K : Nat → Int} {bs : Array Nat} (h : HQ w qb g cap K bs) (i j : Nat) (hi : i < bs.size) (hj : j < bs.size) :
    HQ ((w.setCell ⟨g, i, none⟩ (.pointer (some ⟨bs[j]!, 0, none⟩))).setCell ⟨g, j, none⟩ (.pointer (some ⟨bs[i]!, 0, none⟩))) qb g cap K (swp bs i j) := by
  obtain ⟨cur, h1, h2, h3⟩ := h.row
  have hz : (swp bs i j).size = bs.size := by simp [swp]
  have hget : ∀ k, k < bs.size → ∃ k', k' < bs.size ∧ (swp bs i j)[k]! = bs[k']! := fun k hk => by
    by_cases h1 : k = j
    · exact ⟨i, hi, by rw [h1, swp_right bs i j hj]⟩
    · by_cases h2 : k = i
      · exact ⟨j, hj, by subst h2; rw [swp_left bs k j hi h1]⟩
      · exact ⟨k, hk, by rw [swp_other bs i j k h2 h1]⟩
  refine ⟨?_, by rw [hz]; exact h.room, h.most, ?_, ?_, h.ne⟩
  · rw [RowKit.Below.heap_setCell _ _ _ _ h.ne, RowKit.Below.heap_setCell _ _ _ _ h.ne, hz]; exact h.q
  · refine ⟨(cur.setIfInBounds i (.pointer (some ⟨bs[j]!, 0, none⟩))).setIfInBounds j (.pointer (some ⟨bs[i]!, 0, none⟩)), ?_, by simp [h2], ?_⟩
    · exact heap_setCell_same _ g j _ 33 _ (heap_setCell_same w g i cur 33 _ h1)
    · intro k hk
      rw [hz] at hk
      have hcz : bs.size ≤ cur.size := by rw [h2]; exact h.room
      by_cases e1 : k = j
      · subst e1
        rw [swp_right bs i k hk]
        simp [show k < cur.size by omega]
      · by_cases e2 : k = i
        · subst e2
          rw [swp_left bs k j hk e1]
          rw [Array.getElem?_setIfInBounds_ne (by omega)]
          simp [show k < cur.size by omega]
        · rw [swp_other bs i j k e2 e1, Array.getElem?_setIfInBounds_ne (by omega), Array.getElem?_setIfInBounds_ne (by omega)]
          exact h3 k hk
  · intro k hk
    rw [hz] at hk
    obtain ⟨k', hk', e⟩ := hget k hk
    rw [e]
    obtain ⟨a1, a2, a3⟩ := h.key k' hk'
    refine ⟨?_, a2, a3⟩
    rw [← a1]
    unfold World.cell?
    simp only
    rw [RowKit.Below.heap_setCell _ _ _ _ (by simpa using a3), RowKit.Below.heap_setCell _ _ _ _ (by simpa using a3)]

theorem qlen_any (a : Option Addr) (n cap : Nat) (w : World) : Calls Yba.prog 58 #[.slice a n cap] w fun e w' => e = .returned (.int .i64 n) ∧ w' = w := by
  go_enter Yba.func58, Yba.ntmps58
  go_wp2
  go_ret
  exact ⟨rfl, rfl⟩

set_option maxHeartbeats 1000000 in
theorem qless_any (qb g cap n i j : Nat) (K : Nat → Int) (bs : Array Nat) (w : World) (h : HQ w qb g cap K bs) (hn : bs.size = n) (hi : i < n) (hj : j < n) :
    Calls Yba.prog 59 #[.slice (some ⟨g, 0, none⟩) n cap, .int .i64 i, .int .i64 j] w fun e w' => e = .returned (.bool (decide (K bs[i]! < K bs[j]!))) ∧ ∃ m, w' = w.drewN m := by
  have c1 := h.cell i (by omega)
  have c2 := h.cell j (by omega)
  have k1 := (h.key i (by omega)).1
  have k2 := (h.key j (by omega)).1
  obtain ⟨x, hx⟩ : ∃ x, x = bs[i]! := ⟨_, rfl⟩
  obtain ⟨y, hy⟩ : ∃ y, y = bs[j]! := ⟨_, rfl⟩
  rw [← hx] at c1 k1 ⊢
  rw [← hy] at c2 k2 ⊢
  obtain ⟨kx, hkx⟩ : ∃ kx, kx = K x := ⟨_, rfl⟩
  obtain ⟨ky, hky⟩ : ∃ ky, ky = K y := ⟨_, rfl⟩
  rw [← hkx] at k1 ⊢
  rw [← hky] at k2 ⊢
  clear h hx hy hkx hky hn
  have g1 : (i : Int) < n := by omega
  have g2 : (j : Int) < n := by omega
  go_enter Yba.func59, Yba.ntmps59
  go_wp2_with fail
  go_quiet (fail)
  go_wp2_with fail
  go_returns
  exact ⟨rfl, _, rfl⟩

set_option maxHeartbeats 1000000 in
theorem qswap_any (qb g cap n i j : Nat) (K : Nat → Int) (bs : Array Nat) (w : World) (h : HQ w qb g cap K bs) (hn : bs.size = n) (hi : i < n) (hj : j < n) :
    Calls Yba.prog 60 #[.slice (some ⟨g, 0, none⟩) n cap, .int .i64 i, .int .i64 j] w fun e w' => e = .returned (.tuple #[]) ∧ HQ w' qb g cap K (swp bs i j) ∧ Fr (· = g) w w' := by
  have c1 := h.cell i (by omega)
  have c2 := h.cell j (by omega)
  have f1 := h.free i
  have f2 := h.free j
  have hsw := h.swap i j (by omega) (by omega)
  obtain ⟨x, hx⟩ : ∃ x, x = bs[i]! := ⟨_, rfl⟩
  obtain ⟨y, hy⟩ : ∃ y, y = bs[j]! := ⟨_, rfl⟩
  rw [← hx] at c1 hsw
  rw [← hy] at c2 hsw
  have HSW : Hid (HQ ((w.setCell ⟨g, i, none⟩ (.pointer (some ⟨y, 0, none⟩))).setCell ⟨g, j, none⟩ (.pointer (some ⟨x, 0, none⟩))) qb g cap K (swp bs i j)) := hsw
  have HFR : Hid (Fr (· = g) w ((w.setCell ⟨g, i, none⟩ (.pointer (some ⟨y, 0, none⟩))).setCell ⟨g, j, none⟩ (.pointer (some ⟨x, 0, none⟩)))) := ((Fr.refl (· = g) w).setCell ⟨g, i, none⟩ rfl _).setCell ⟨g, j, none⟩ rfl _
  have g1 : (i : Int) < n := by omega
  have g2 : (j : Int) < n := by omega
  by_cases hij : i = j
  · have hxy : x = y := by rw [hx, hy, hij]
    subst hxy
    clear hx hy hsw h hn
    subst hij
    go_enter Yba.func60, Yba.ntmps60
    go_wp2_with fail
    go_region
    go_wp2_with fail
    go_returns
    exact ⟨rfl, ⟨HSW.out.q, HSW.out.room, HSW.out.most, HSW.out.row, HSW.out.key, HSW.out.ne⟩, HFR.out.os, HFR.out.tape, HFR.out.output, HFR.out.size, HFR.out.block⟩
  · clear hx hy hsw h hn
    go_enter Yba.func60, Yba.ntmps60
    go_wp2_with fail
    go_region
    go_wp2_with fail
    go_returns
    exact ⟨rfl, ⟨HSW.out.q, HSW.out.room, HSW.out.most, HSW.out.row, HSW.out.key, HSW.out.ne⟩, HFR.out.os, HFR.out.tape, HFR.out.output, HFR.out.size, HFR.out.block⟩
end Go.Proofs.Ybulkbaha
