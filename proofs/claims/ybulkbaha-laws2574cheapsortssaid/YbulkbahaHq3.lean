import Derived.Test.YbulkbahaHq2
import Derived.Deep.RegionLaw
import Derived.Maps.AppendAt
namespace Go.Proofs.Ybulkbaha
open Go.RowKit Go.Sort

/-- append, onto a row of the call's own, as one step of a region that draws. -/
theorem step_append_own {P : Program} {ops : Array Oper} {o : Oper} {a : Act} {w : World} {K : Act → World → Prop} {Q : Exit → Act → World → Prop} {E : Prop}
    (hg : o.guard = none) (s x : Operand) (t : TypeId) (hop : o.op = Op.call { callee := Callee.builtin Builtin.append, args := #[s, x], argTypes := #[t, t] })
    (base : Nat) (e : TypeId) (i : TypeInfo) (z : Value) (size bytes : Nat) (ht : P.underlying t = some (.slice e)) (hi : P.info? e = some i) (hz : i.zero = some z)
    (hsize : i.size = size) (hby : i.bytes = bytes) (hzs : z.cells.size = size) (hsz : 0 < size)
    (v : Value) (n : Nat) (xs : List Value) (hs : a.eval s = v) (hown : w.ownsRow base e size v n xs)
    (ad : Addr) (m c : Nat) (news : List Value) (hx : a.eval x = .slice (some ad) m c) (hl : news.length = m * size) (hnews : ∀ j u, news[j]? = some u → w.cell? (ad.add j) = some u) (h1 : ∀ u ∈ news, u.oneCell' = true)
    (h63 : n + m ≤ maxLen) (hbytes : (n + m) * bytes ≤ 140737488355328) (hbase : base ≤ w.heap.size)
    (hK : ∀ v' w', w'.ownsRow base e size v' (n + m) (xs ++ news) → w.grownBy w' v.ownBlock → (v'.ownBlock = v.ownBlock ∨ v'.ownBlock = some w.heap.size) → K (a.put o.dst v') w') :
    if Region.wanted o (yielded ops a.tmps) = true then Oper.wp P o a w K Q else E := by
  have hw : Region.wanted o (yielded ops a.tmps) = true := by simp [Region.wanted, hg]
  rw [if_pos hw]
  obtain ⟨v', w', hr, h2, h3, _, h5⟩ := run_append_own_at (P := P) w base t o.type e i z size bytes ht hi hz hsize hby hzs hsz v n xs hown ad m c news hl hnews h1 h63 hbytes hbase
  unfold Oper.wp execOp
  simp only [hop, resolve, invoke, builtin, Sem.run_bind, Sem.run_pure, Result.andThen_ok, List.map_toArray, List.map_cons, List.map_nil, hs, hx, hr]
  exact hK v' w' h2 h3 h5

/-- The row's cells. -/
def ptrs (bs : Array Nat) : List Value := bs.toList.map fun b => .pointer (some ⟨b, 0, none⟩)

theorem HQ.owns {w : World} {qb g cap : Nat} {K : Nat → Int} {bs : Array Nat} (h : HQ w qb g cap K bs) : w.ownsRow 0 33 1 (.slice (some ⟨g, 0, none⟩) bs.size cap) bs.size (ptrs bs) := by
  obtain ⟨cur, h1, h2, h3⟩ := h.row
  refine ⟨by simp [ptrs], .inr ⟨g, cap, cur, rfl, Nat.zero_le _, h1, h.room, h.most, by simp [h2], ?_⟩⟩
  apply List.ext_getElem?
  intro i
  rw [Nat.mul_one]
  by_cases hi : i < bs.size
  · rw [List.getElem?_take_of_lt hi]
    have h4 := h3 i hi
    rw [← Array.getElem?_toList] at h4
    rw [h4]
    simp [ptrs, hi]
  · rw [List.getElem?_eq_none (by simp; omega), List.getElem?_eq_none (by simp [ptrs]; omega)]

/-- A queue, laid anew from its parts. -/
theorem HQ.ofOwns {w : World} {qb g cap n : Nat} {K : Nat → Int} {bs : Array Nat} (hn : n = bs.size) (ho : w.ownsRow 0 33 1 (.slice (some ⟨g, 0, none⟩) n cap) n (ptrs bs))
    (hq : w.heap[qb]? = some (.cells #[.slice (some ⟨g, 0, none⟩) n cap] 38 (0, 0))) (hk : ∀ i, i < bs.size → w.cell? ⟨bs[i]!, 3, none⟩ = some (.int .u64 (K bs[i]!)) ∧ bs[i]! ≠ qb ∧ bs[i]! ≠ g) (hne : qb ≠ g) : HQ w qb g cap K bs := by
  subst hn
  rcases ho.2 with ⟨h', _⟩ | ⟨g', cap', cur, h', hb, hg, hnc, hcm, hcs, htake⟩
  · simp at h'
  · simp only [Value.slice.injEq, Option.some.injEq, Addr.mk.injEq, and_true, true_and] at h'
    obtain ⟨rfl, rfl⟩ := h'
    refine ⟨hq, hnc, hcm, ⟨cur, hg, by simpa using hcs, fun i hi => ?_⟩, hk, hne⟩
    rw [Nat.mul_one] at htake
    have h4 : (ptrs bs)[i]? = some (.pointer (some ⟨bs[i]!, 0, none⟩)) := by simp [ptrs, hi]
    rw [← htake, List.getElem?_take_of_lt hi, Array.getElem?_toList] at h4
    exact h4

theorem assert33f (p : Option Addr) (w : World) : (Instr.typeAssert (.iface 33 (.pointer p)) 20 33 false).run Yba.prog w = .ok (.pointer p) w := by kernel_rfl
theorem assert33t (p : Option Addr) (w : World) : (Instr.typeAssert (.iface 33 (.pointer p)) 20 33 true).run Yba.prog w = .ok (.tuple #[.pointer p, .bool true]) w := by kernel_rfl
theorem info33 : (Yba.prog.info? 33).map (fun i => (i.zero, i.size, i.bytes)) = some (some (.pointer none), 1, 8) := by kernel_rfl

theorem getPush (bs : Array Nat) (b i : Nat) (hi : i < bs.size + 1) : (bs.push b)[i]! = if i < bs.size then bs[i]! else b := by
  by_cases h : i < bs.size
  · rw [if_pos h]
    simp [h, show i < bs.size + 1 by omega, Array.getElem_push_lt h]
  · have : i = bs.size := by omega
    subst this
    simp

theorem push_fact (qb g cap n b : Nat) (K : Nat → Int) (bs : Array Nat) (w : World) (h : HQ w qb g cap K bs) (hn : bs.size = n)
    (hb : w.cell? ⟨b, 3, none⟩ = some (.int .u64 (K b))) (hb1 : b ≠ qb) (hb2 : b ≠ g) (o : Obj) (v' : Value) (w' : World)
    (ho : w'.ownsRow 0 33 1 v' (n + 1) (ptrs bs ++ [.pointer (some ⟨b, 0, none⟩)])) (hgr : (w.alloc o).drew.grownBy w' (some g)) (hloc : v'.ownBlock = some g ∨ v'.ownBlock = some (w.alloc o).drew.heap.size) :
    ∃ g' cap', v' = .slice (some ⟨g', 0, none⟩) (n + 1) cap' ∧ w'.cell? ⟨qb, 0, none⟩ = some (.slice (some ⟨g, 0, none⟩) n cap) ∧ w'.frozen? ⟨qb, 0, none⟩ = false ∧
      Hid (HQ (w'.setCell ⟨qb, 0, none⟩ (.slice (some ⟨g', 0, none⟩) (n + 1) cap')) qb g' cap' K (bs.push b) ∧ Fr (fun k => k = qb ∨ k = g) w (w'.setCell ⟨qb, 0, none⟩ (.slice (some ⟨g', 0, none⟩) (n + 1) cap')) ∧ (g' = g ∨ w.heap.size ≤ g')) := by
  have hqlt : qb < w.heap.size := lt_of_block h.q
  have hblk : ∀ k, k < w.heap.size → k ≠ g → w'.heap[k]? = w.heap[k]? := fun k hk hne =>
    (hgr.block k (by simp; omega) (by simpa using hne)).trans (RowKit.Below.heap_alloc w o k hk)
  have hq' : w'.heap[qb]? = some (.cells #[.slice (some ⟨g, 0, none⟩) n cap] 38 (0, 0)) := by rw [hblk qb hqlt h.ne, h.q, hn]
  have hsz : w.heap.size ≤ w'.heap.size := Nat.le_trans (by simp) hgr.size
  rcases ho.2 with ⟨_, h0⟩ | ⟨g', cap', cur, rfl, hb0, hg, hnc, hcm, hcs, htake⟩
  · omega
  · have hg' : g' = g ∨ g' = w.heap.size + 1 := by
      rcases hloc with e | e
      · exact .inl (Option.some.inj e)
      · exact .inr ((Option.some.inj e).trans (by simp))
    have hqg : qb ≠ g' := by
      have := h.ne
      omega
    refine ⟨g', cap', rfl, by simp [World.cell?, hq'], by simp [World.frozen?, hq'], ?_⟩
    refine ⟨HQ.ofOwns (n := n + 1) (by simp [hn]) ?_ ?_ ?_ hqg, ?_, by omega⟩
    · have e : ptrs (bs.push b) = ptrs bs ++ [.pointer (some ⟨b, 0, none⟩)] := by simp [ptrs]
      rw [e]
      exact ⟨ho.1, .inr ⟨g', cap', cur, rfl, hb0, (RowKit.Below.heap_setCell w' _ _ g' (by simpa using hqg.symm)).trans hg, hnc, hcm, hcs, htake⟩⟩
    · have h5 := heap_setCell_same w' qb 0 #[.slice (some ⟨g, 0, none⟩) n cap] 38 (.slice (some ⟨g', 0, none⟩) (n + 1) cap') hq'
      rw [h5]
      simp
    · intro i hi
      rw [Array.size_push] at hi
      have key : ∀ x, w.cell? ⟨x, 3, none⟩ = some (.int .u64 (K x)) → x ≠ qb → x ≠ g → (w'.setCell ⟨qb, 0, none⟩ (.slice (some ⟨g', 0, none⟩) (n + 1) cap')).cell? ⟨x, 3, none⟩ = some (.int .u64 (K x)) ∧ x ≠ qb ∧ x ≠ g' := by
        intro x hx hx1 hx2
        have hxl : x < w.heap.size := World.block_lt_of_cell? _ _ hx
        refine ⟨?_, hx1, by omega⟩
        rw [← hx]
        exact World.cell?_of_block ((RowKit.Below.heap_setCell w' _ _ x (by simpa using hx1)).trans (hblk x hxl hx2))
      rw [getPush bs b i hi]
      by_cases hlt : i < bs.size
      · rw [if_pos hlt]
        obtain ⟨k1, k2, k3⟩ := h.key i hlt
        exact key _ k1 k2 k3
      · rw [if_neg hlt]
        exact key _ hb hb1 hb2
    · exact ⟨hgr.os, hgr.tape, hgr.output, by simpa using hsz, fun k hk hs => by
        rw [RowKit.Below.heap_setCell w' _ _ k (by simp; omega), hblk k hk (by omega)]⟩

set_option maxRecDepth 100000 in
set_option maxHeartbeats 4000000 in
theorem qpush_any (qb g cap n b : Nat) (K : Nat → Int) (bs : Array Nat) (w : World) (h : HQ w qb g cap K bs) (hn : bs.size = n) (hn2 : n ≤ 1024)
    (hb : w.cell? ⟨b, 3, none⟩ = some (.int .u64 (K b))) (hb1 : b ≠ qb) (hb2 : b ≠ g) :
    Calls Yba.prog 61 #[.pointer (some ⟨qb, 0, none⟩), .iface 33 (.pointer (some ⟨b, 0, none⟩))] w fun e w' => e = .returned (.tuple #[]) ∧ ∃ g' cap', HQ w' qb g' cap' K (bs.push b) ∧ Fr (fun k => k = qb ∨ k = g) w w' ∧ (g' = g ∨ w.heap.size ≤ g') := by
  obtain ⟨i0, hi, hz0, hz1, hz2⟩ := info_parts info33
  have hq := h.qcell
  have hqf := h.qfree
  rw [hn] at hq
  have HH : Hid (HQ w qb g cap K bs) := h
  have HOWN : Hid ((w.alloc (.cells #[.pointer (some ⟨b, 0, none⟩)] 33)).drew.ownsRow 0 33 1 (.slice (some ⟨g, 0, none⟩) n cap) n (ptrs bs)) := by rw [← hn]; exact (h.owns.alloc _).drew
  have HNEW : Hid (∀ j u, [Value.pointer (some ⟨b, 0, none⟩)][j]? = some u → (w.alloc (.cells #[.pointer (some ⟨b, 0, none⟩)] 33)).drew.cell? ((⟨w.heap.size, 0, none⟩ : Addr).add j) = some u) := cell_one_new w (.pointer (some ⟨b, 0, none⟩)) 33
  have HONE : Hid (∀ u ∈ [Value.pointer (some ⟨b, 0, none⟩)], u.oneCell' = true) := by intro u hu; simp at hu; subst hu; rfl
  have HMX : Hid (n + 1 ≤ maxLen) := by show n + 1 ≤ maxLen; unfold maxLen; omega
  have HBY : Hid ((n + 1) * 8 ≤ 140737488355328) := by show (n + 1) * 8 ≤ 140737488355328; omega
  have HFACT : Hid (∀ v' w', _ → _ → _ → _) := push_fact qb g cap n b K bs w h hn hb hb1 hb2 (.cells #[.pointer (some ⟨b, 0, none⟩)] 33)
  have hq2 : (w.alloc (.cells #[.pointer (some ⟨b, 0, none⟩)] 33)).cell? ⟨qb, 0, none⟩ = some (.slice (some ⟨g, 0, none⟩) n cap) := (World.cell?_of_block (RowKit.Below.heap_alloc w _ qb (lt_of_block h.q))).trans hq
  have hta := assert33f (some ⟨b, 0, none⟩)
  clear h hn
  go_enter Yba.func61, Yba.ntmps61
  go_wp2_with fail
  go_region_law (refine step_append_own rfl (.tmp 7) (.tmp 10) 38 rfl 0 33 i0 (.pointer none) 1 8 Yba.underlying38 hi hz0 hz1 hz2 rfl (by decide) (.slice (some ⟨g, 0, none⟩) n cap) n (ptrs bs) rfl HOWN.out ⟨w.heap.size, 0, none⟩ 1 1 [.pointer (some ⟨b, 0, none⟩)] rfl rfl HNEW.out HONE.out HMX.out HBY.out (Nat.zero_le _) ?_; intro v' w' ho hgr hloc; obtain ⟨g', cap', rfl, hq', hqf', HX⟩ := HFACT.out v' w' ho hgr hloc; clear ho hgr hloc)
  all_goals (go_wp2_with fail; go_returns; exact ⟨rfl, g', cap', ⟨HX.out.1.q, HX.out.1.room, HX.out.1.most, HX.out.1.row, HX.out.1.key, HX.out.1.ne⟩, ⟨HX.out.2.1.os, HX.out.2.1.tape, HX.out.2.1.output, HX.out.2.1.size, HX.out.2.1.block⟩, HX.out.2.2⟩)
end Go.Proofs.Ybulkbaha
