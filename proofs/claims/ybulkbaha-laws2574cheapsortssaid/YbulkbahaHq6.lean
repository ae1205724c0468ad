import Derived.Test.YbulkbahaHq5
namespace Go.Proofs.Ybulkbaha
open Go.RowKit Go.Sort

theorem HQ.below {w w' : World} {qb g cap : Nat} {K : Nat → Int} {bs : Array Nat} (h : HQ w qb g cap K bs) (hb : RowKit.Below w.heap.size w w') : HQ w' qb g cap K bs := by
  obtain ⟨cur, h1, h2, h3⟩ := h.row
  exact ⟨(hb.block qb (lt_of_block h.q)).trans h.q, h.room, h.most, ⟨cur, (hb.block g (lt_of_block h1)).trans h1, h2, h3⟩,
    fun i hi => ⟨(World.cell?_of_block (hb.block _ (World.block_lt_of_cell? _ _ (h.key i hi).1))).trans (h.key i hi).1, (h.key i hi).2⟩, h.ne⟩
theorem HQ.keyCongr {w : World} {qb g cap : Nat} {K K' : Nat → Int} {bs : Array Nat} (h : HQ w qb g cap K bs) (hk : ∀ i, i < bs.size → K' bs[i]! = K bs[i]!) : HQ w qb g cap K' bs :=
  ⟨h.q, h.room, h.most, h.row, fun i hi => by rw [hk i hi]; exact h.key i hi, h.ne⟩
theorem PH.keyCongr {K K' : Nat → Int} {m : Nat} {bs : Array Nat} (h : PH K m bs) (hk : ∀ i, i < m → K' bs[i]! = K bs[i]!) : PH K' m bs := fun k h1 h2 => by
  rw [hk k h2, hk _ (by omega)]
  exact h k h1 h2
theorem map_congr_get (K K' : Nat → Int) (bs : Array Nat) (hk : ∀ i, i < bs.size → K' bs[i]! = K bs[i]!) : bs.toList.map K' = bs.toList.map K := by
  apply List.map_congr_left
  intro x hx
  obtain ⟨i, hi, rfl⟩ := List.getElem_of_mem hx
  have hi' : i < bs.size := by simpa using hi
  have := hk i hi'
  simpa [hi'] using this

/-- k starts have been pushed. -/
def PushSt (w0 : World) (zs : List Int) (k : Nat) (wr : World) : Prop :=
  ∃ (g cap : Nat) (K : Nat → Int) (bs : Array Nat), HQ wr (w0.heap.size + 1) g cap K bs ∧ bs.size = k ∧ PH K k bs ∧ (bs.toList.map K).Perm (zs.take k) ∧ w0.heap.size ≤ g ∧ RowKit.Below w0.heap.size w0 wr

theorem PushSt.start (w : World) (zs : List Int) : PushSt w zs 0 ((w.alloc (.cells #[] 33)).alloc (.cells #[.slice (some ⟨w.heap.size, 0, none⟩) 0 0] 38)) := by
  refine ⟨w.heap.size, 0, fun _ => 0, #[], ⟨?_, Nat.le_refl _, Nat.zero_le _, ⟨#[], ?_, rfl, fun i hi => by simp at hi⟩, fun i hi => by simp at hi, by omega⟩, rfl, fun k _ h => by omega, by simp, Nat.le_refl _, ?_⟩
  · have := heap_alloc_new (w.alloc (.cells #[] 33)) (.cells #[.slice (some ⟨w.heap.size, 0, none⟩) 0 0] 38)
    simpa using this
  · rw [RowKit.Below.heap_alloc _ _ _ (by simp)]
    exact heap_alloc_new w _
  · exact ((RowKit.Below.refl _ w).alloc (Nat.le_refl _) _).alloc (by simp) _

theorem pushSt_call (w0 : World) (zs : List Int) (k : Nat) (wr : World) (h : PushSt w0 zs k wr) (hk : k + 1 ≤ 1024) (hl : k < zs.length) (cs : Array Value) (hcs : cs[3]? = some (.int .u64 (zs.getD k 0))) :
    Calls Yba.prog 12 #[.iface 43 (.pointer (some ⟨w0.heap.size + 1, 0, none⟩)), .iface 33 (.pointer (some ⟨wr.heap.size, 0, none⟩))] (wr.alloc (.cells cs 37)) fun e w' => e = .returned (.tuple #[]) ∧ PushSt w0 zs (k + 1) w' := by
  obtain ⟨g, cap, K, bs, hq, hz, hp, hperm, hg, hbel⟩ := h
  obtain ⟨x, hx⟩ : ∃ x, x = zs.getD k 0 := ⟨_, rfl⟩
  rw [← hx] at hcs
  obtain ⟨K', hK'⟩ : ∃ K' : Nat → Int, K' = fun y => if y = wr.heap.size then x else K y := ⟨_, rfl⟩
  have hlt : ∀ i, i < bs.size → bs[i]! < wr.heap.size := fun i hi => World.block_lt_of_cell? _ _ (hq.key i hi).1
  have hcong : ∀ i, i < bs.size → K' bs[i]! = K bs[i]! := fun i hi => by
    have := hlt i hi
    rw [hK']
    exact if_neg (by omega)
  have hself : K' wr.heap.size = x := by rw [hK']; exact if_pos rfl
  have hqlt : w0.heap.size + 1 < wr.heap.size := lt_of_block hq.q
  have hglt : g < wr.heap.size := by
    obtain ⟨cur, h1, _⟩ := hq.row
    exact lt_of_block h1
  have hq1 : HQ (wr.alloc (.cells cs 37)) (w0.heap.size + 1) g cap K' bs := (hq.below ((RowKit.Below.refl _ wr).alloc (Nat.le_refl _) _)).keyCongr hcong
  have hnew : (wr.alloc (.cells cs 37)).cell? ⟨wr.heap.size, 3, none⟩ = some (.int .u64 (K' wr.heap.size)) := by
    rw [hself]
    have := heap_alloc_new wr (.cells cs 37)
    unfold World.cell?
    simp only [this]
    exact hcs
  refine (hpush_any (w0.heap.size + 1) g cap k wr.heap.size K' bs _ hq1 hz hk hnew (by omega) (by omega)).mono ?_
  rintro e w' ⟨rfl, g', cap', hq2, hz2, hf2, hg'⟩
  have hh := push_heap K' k wr.heap.size bs hz (hp.keyCongr (fun i hi => hcong i (by omega)))
  refine ⟨rfl, g', cap', K', _, hq2, hz2, hh.1, ?_, ?_, ?_⟩
  · have h1 := hh.2.map K'
    rw [List.map_append, map_congr_get K K' bs hcong] at h1
    have e : zs.take (k + 1) = zs.take k ++ [x] := by
      rw [hx, List.take_succ_eq_append_getElem hl]
      simp [List.getD, hl]
    rw [e]
    refine h1.trans ?_
    simp only [List.map_cons, List.map_nil, hself]
    exact hperm.append_right _
  · have : wr.heap.size ≤ (wr.alloc (.cells cs 37)).heap.size := by simp
    have := hbel.size
    omega
  · have hs1 : (wr.alloc (.cells cs 37)).heap.size = wr.heap.size + 1 := by simp
    exact (hbel.alloc hbel.size _).trans (hf2.below (by have := hbel.size; omega) (fun k hk => by have := hbel.size; omega))

/-- k starts have been popped: they were the k least. -/
def PopSt (w0 : World) (sb : Nat) (S : Array Int) (k : Nat) (wr : World) : Prop :=
  ∃ (g cap : Nat) (K : Nat → Int) (bs : Array Nat), HQ wr (w0.heap.size + 1) g cap K bs ∧ bs.size + k = S.size ∧ PH K bs.size bs ∧ (bs.toList.map K).Perm (S.toList.drop k) ∧ w0.heap.size ≤ g ∧ g ≠ sb ∧ w0.heap.size + 1 ≠ sb ∧ Row wr sb S ∧ RowKit.Below w0.heap.size w0 wr

theorem PopSt.start {w0 wr w' : World} {zs : List Int} {S : Array Int} {sb n : Nat} (h : PushSt w0 zs n wr) (hn : zs.length = n) (hsb : wr.heap.size ≤ sb) (hb : RowKit.Below wr.heap.size wr w') (hr : Row w' sb S) (hS : S = sort ltInt zs.toArray) : PopSt w0 sb S 0 w' := by
  obtain ⟨g, cap, K, bs, hq, hz, hp, hperm, hg, hbel⟩ := h
  have hqlt : w0.heap.size + 1 < wr.heap.size := lt_of_block hq.q
  have hglt : g < wr.heap.size := by
    obtain ⟨cur, h1, _⟩ := hq.row
    exact lt_of_block h1
  have hps := (sort_sorts ltInt swo_ltInt zs.toArray).1
  rw [← hS] at hps
  have hSz : S.size = n := by rw [hps.1]; simpa using hn
  have hpl : S.toList.Perm zs := by
    have h5 := hps.2.2
    have e1 : S.extract 0 zs.toArray.size = S := by rw [← hps.1]; exact Array.extract_size
    rw [e1, Array.extract_size] at h5
    exact h5
  refine ⟨g, cap, K, bs, hq.below hb, by omega, by rw [hz]; exact hp, ?_, hg, by omega, by omega, hr, hbel.trans (hb.mono (by omega))⟩
  rw [List.drop_zero]
  rw [List.take_of_length_le (by omega)] at hperm
  exact hperm.trans hpl.symm

theorem popSt_call (w0 : World) (sb : Nat) (S : Array Int) (k : Nat) (wr : World) (h : PopSt w0 sb S k wr) (hk : k < S.size) (hS2 : S.size ≤ 1024) (hsrt : SortedIn ltInt 0 S.size S) :
    Calls Yba.prog 14 #[.iface 43 (.pointer (some ⟨w0.heap.size + 1, 0, none⟩))] wr fun e w' => ∃ x, e = .returned (.iface 33 (.pointer (some ⟨x, 0, none⟩))) ∧ w'.cell? ⟨x, 3, none⟩ = some (.int .u64 S[k]!) ∧ PopSt w0 sb S (k + 1) w' := by
  obtain ⟨g, cap, K, bs, hq, hz, hp, hperm, hg, hgs, hqs, hrow, hbel⟩ := h
  obtain ⟨n, hn⟩ : ∃ n, bs.size = n + 1 := ⟨bs.size - 1, by omega⟩
  rw [hn] at hp
  refine (hpop_any (w0.heap.size + 1) g cap n K bs wr hq hn (by omega)).mono ?_
  rintro e w' ⟨rfl, hq2, hz2, hf2⟩
  obtain ⟨P1, P2, P3, P4⟩ := pop_heap K n bs hn hp
  obtain ⟨k1, k2, k3⟩ := hq.key 0 (by omega)
  have hlen : (S.toList.drop k).length = n + 1 := by simp; omega
  have hdrop : S.toList.drop k = S[k]! :: S.toList.drop (k + 1) := by
    rw [List.drop_eq_getElem_cons (by simpa using hk)]
    simp [hk]
  have hmem : ∀ y, y ∈ bs.toList.map K → K bs[0]! ≤ y := by
    intro y hy
    obtain ⟨b, hb, rfl⟩ := List.mem_map.1 hy
    obtain ⟨i, hi, rfl⟩ := List.getElem_of_mem hb
    have hi' : i < bs.size := by simpa using hi
    have := P4 i (by omega)
    simpa [hi'] using this
  have hsrt2 : ∀ y, y ∈ S.toList.drop k → S[k]! ≤ y := by
    intro y hy
    obtain ⟨i, hi, rfl⟩ := List.getElem_of_mem hy
    rw [List.getElem_drop]
    by_cases h0 : i = 0
    · subst h0
      simp [hk]
    · have hki : k + i < S.size := by simp at hi; omega
      have := hsrt k (k + i) (Nat.zero_le _) (by omega) hki
      simp only [ltInt, decide_eq_false_iff_not] at this
      have e : S[k + i]! = S.toList[k + i]'(by simpa using hki) := by simp [hki]
      rw [← e]
      omega
  have hkey : K bs[0]! = S[k]! := by
    have a1 : S[k]! ≤ K bs[0]! := by
      refine hsrt2 _ (hperm.mem_iff.1 (List.mem_map.2 ⟨bs[0]!, ?_, rfl⟩))
      have : bs[0]! = bs.toList[0]'(by simp; omega) := by simp [show 0 < bs.size by omega]
      rw [this]
      exact List.getElem_mem _
    have a2 : K bs[0]! ≤ S[k]! := hmem _ (hperm.mem_iff.2 (by rw [hdrop]; exact List.mem_cons_self))
    omega
  rw [P2]
  refine ⟨bs[0]!, rfl, ?_, g, cap, K, _, hq2, ?_, ?_, ?_, hg, hgs, hqs, ?_, ?_⟩
  · rw [← hkey, ← k1]
    exact World.cell?_of_block (hf2.block _ (World.block_lt_of_cell? _ _ k1) (fun e => e.elim k2 k3))
  · rw [Array.size_pop, hz2]
    omega
  · rw [Array.size_pop, hz2]
    exact P1
  · have h1 := P3.map K
    rw [List.map_append] at h1
    have h2 := h1.trans hperm
    rw [hdrop, List.map_cons, List.map_nil, hkey] at h2
    exact (List.perm_cons _).1 ((List.perm_append_comm (l₁ := [S[k]!])).trans h2)
  · exact (hf2.block sb hrow.lt (fun e => e.elim (fun e => hqs e.symm) (fun e => hgs e.symm))).trans hrow
  · exact hbel.trans (hf2.below hbel.size (fun k hk => by omega))
end Go.Proofs.Ybulkbaha
