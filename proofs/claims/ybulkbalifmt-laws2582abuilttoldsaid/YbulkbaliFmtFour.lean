import Derived.Test.YbulkbaliFmtMsg
namespace Go.Proofs.YbulkbaliFmt
open Go.RowKit

/-- A block of the call's own, known whole. -/
def Blk (w : World) (b : Nat) (t : TypeId) (l : List Value) : Prop := w.heap[b]? = some (.cells l.toArray t (0, 0))
theorem Blk.lt {w : World} {b t : Nat} {l : List Value} (h : Blk w b t l) : b < w.heap.size := lt_of_block h
theorem Blk.cell {w : World} {b t : Nat} {l : List Value} (h : Blk w b t l) (j : Nat) : w.cell? ⟨b, j, none⟩ = l[j]? := by
  have h' : w.heap[b]? = some (.cells l.toArray t (0, 0)) := h
  simp [World.cell?, h']
theorem Blk.free {w : World} {b t : Nat} {l : List Value} (h : Blk w b t l) (j : Nat) : w.frozen? ⟨b, j, none⟩ = false := by
  have h' : w.heap[b]? = some (.cells l.toArray t (0, 0)) := h
  simp [World.frozen?, h']
theorem Blk.set {w : World} {b t : Nat} {l : List Value} (h : Blk w b t l) (j : Nat) (u : Value) : Blk (w.setCell ⟨b, j, none⟩ u) b t (l.set j u) := by
  have h' := heap_setCell_same w b j l.toArray t u h
  unfold Blk
  rw [h']; simp
theorem Blk.other {w : World} {b t : Nat} {l : List Value} (h : Blk w b t l) {a : Addr} (ha : b ≠ a.block) (u : Value) : Blk (w.setCell a u) b t l := (Below.heap_setCell w a u b ha).trans h
theorem Blk.alloc {w : World} {b t : Nat} {l : List Value} (h : Blk w b t l) (o : Obj) : Blk (w.alloc o) b t l := (Below.heap_alloc w o b h.lt).trans h
theorem Blk.below {w w' : World} {b t : Nat} {l : List Value} (h : Blk w b t l) (hb : Below w.heap.size w w') : Blk w' b t l := (hb.block b h.lt).trans h

/-- The array of four after k rounds. -/
def four (t : Nat → Nat) (k : Nat) : List Value := (List.range 4).map fun i => .int .u64 ((if i < k then t i else 0 : Nat) : Int)
theorem four_set (t : Nat → Nat) (k : Nat) (hk : k < 4) : (four t k).set k (.int .u64 (t k)) = four t (k + 1) := by
  match k, hk with
  | 0, _ => rfl
  | 1, _ => rfl
  | 2, _ => rfl
  | 3, _ => rfl
theorem four_at (t : Nat → Nat) (k : Nat) (hk : k < 4) : (four t k)[k]? = some (.int .u64 0) := by
  match k, hk with
  | 0, _ => rfl
  | 1, _ => rfl
  | 2, _ => rfl
  | 3, _ => rfl

set_option maxHeartbeats 1000000 in
theorem four_any (g q m cc : Nat) (t : Nat → Nat) (bt : List UInt8) (w : World) (hbt : bt.length = 32) (hm : 32 ≤ m) (hcc : m ≤ cc) (hcb : cc ≤ 1000000) (hg : g < w.heap.size)
    (hc : ∀ j (hj : j < bt.length), w.cell? ⟨g, q + j, none⟩ = some (.int .u8 bt[j].toNat))
    (ht : ∀ k (hk : k < 4), Lib.beNat [bt[8 * k], bt[8 * k + 1], bt[8 * k + 2], bt[8 * k + 3], bt[8 * k + 4], bt[8 * k + 5], bt[8 * k + 6], bt[8 * k + 7]] = t k) :
    Calls Ybaf.prog 9 #[.slice (some ⟨g, q, none⟩) m cc] w fun e w' => e = .returned (.agg #[.int .u64 (t 0), .int .u64 (t 1), .int .u64 (t 2), .int .u64 (t 3)]) ∧ Below w.heap.size w w' := by
  have cU : Hid (∀ (k : Nat) (_ : k < 4) (wx : World), Below w.heap.size w wx → Calls Ybaf.prog 15 #[.agg #[], .slice (some ⟨g, q + 8 * k, none⟩) (m - 8 * k) (cc - 8 * k)] wx fun e w' => e = .returned (.int .u64 (t k : Nat)) ∧ Below wx.heap.size wx w') := by
    intro k hk wx hb
    have h : ∀ j (hj : j < 32), wx.cell? ⟨g, q + j, none⟩ = some (.int .u8 (bt[j]'(by omega)).toNat) := fun j hj => (hb.cell (by exact hg)).trans (hc j (by omega))
    have := Ybaf.binary_BE_Uint64 g (q + 8 * k) (m - 8 * k) (cc - 8 * k) (bt[8 * k]'(by omega)) (bt[8 * k + 1]'(by omega)) (bt[8 * k + 2]'(by omega)) (bt[8 * k + 3]'(by omega)) (bt[8 * k + 4]'(by omega)) (bt[8 * k + 5]'(by omega)) (bt[8 * k + 6]'(by omega)) (bt[8 * k + 7]'(by omega)) wx (by omega)
      (h (8 * k) (by omega)) (h (8 * k + 1) (by omega)) (h (8 * k + 2) (by omega)) (h (8 * k + 3) (by omega)) (h (8 * k + 4) (by omega)) (h (8 * k + 5) (by omega)) (h (8 * k + 6) (by omega)) (h (8 * k + 7) (by omega))
    rw [ht k hk] at this
    exact this
  have HSL : Hid (∀ (k : Nat) (_ : k < 4) w', (Instr.slice 22 (.slice (some ⟨g, q, none⟩) m cc) (some (.int .i64 (8 * (k : Int)))) none none).run Ybaf.prog w' = .ok (.slice (some ⟨g, q + 8 * k, none⟩) (m - 8 * k) (cc - 8 * k)) w') := by
    intro k hk w'
    have e1 : (8 * (k : Int)).toNat = 8 * k := by omega
    rw [run_slice_l w' 22 (some ⟨g, q, none⟩) m cc Ybaf.underlying22 .i64 (8 * (k : Int)) (by omega) (by omega)]
    by_cases h0 : k = 0
    · subst h0; simp [go_sem, sliced]
    · simp [go_sem, sliced, e1, show ¬ cc = 8 * k by omega]
  clear hc ht
  go_enter Ybaf.func9, Ybaf.ntmps9
  go_wp2
  go_loopw [5] (fun i wr => ∃ k : Nat, k ≤ 4 ∧ i = .int .i64 k ∧ Below w.heap.size w wr ∧ Blk wr w.heap.size 28 (four t 0) ∧ Blk wr (w.heap.size + 1) 28 (four t k)) (fun i _ => 4 - (intOf i).toNat)
  case atStart =>
    refine ⟨0, by omega, rfl, ?_, ?_, ?_⟩
    · exact ((Below.refl _ _).alloc (Nat.le_refl _) _).alloc (by simp) _
    · exact (Below.heap_alloc _ _ _ (by simp)).trans (heap_alloc_new w _)
    · have h := heap_alloc_new (w.alloc (.cells #[.int .u64 0, .int .u64 0, .int .u64 0, .int .u64 0] 28)) (.cells #[.int .u64 0, .int .u64 0, .int .u64 0, .int .u64 0] 28)
      rw [World.size_alloc] at h
      exact h
  case round =>
    obtain ⟨k, hk, rfl, hnx, hr, hf⟩ := hrel
    by_cases hlt : k < 4
    · have hsl := HSL.out k hlt
      have hcu : Hid (∀ (wx : World), Below w.heap.size w wx → Calls Ybaf.prog 15 #[.agg #[], .slice (some ⟨g, q + 8 * k, none⟩) (m - 8 * k) (cc - 8 * k)] wx fun e w' => e = .returned (.int .u64 (t k : Nat)) ∧ Below wx.heap.size wx w') := cU.out k hlt
      have fc : wr.cell? ⟨w.heap.size + 1, k, none⟩ = some (.int .u64 0) := (hf.cell k).trans (four_at t k hlt)
      have ff := hf.free k
      have hlt' : (k : Int) < 4 := by omega
      have hw8 : IntKind.i64.wrap (8 * (k : Int)) = 8 * (k : Int) := by rw [IntKind.wrap_i64]; omega
      go_upto_region 5 with fail
      go_region_held3 (fun w' => Below w.heap.size w w') (first | assumption | exact hnx.drew | (refine Below.setCell ?_ (by simp) _; assumption))
        (first
          | (go_at_call 15; refine (hcu.out _ (by exact hnx.drew)).mono ?_; rintro e w1 ⟨rfl, hb1⟩; have hb2 : Below wr.heap.size wr w1 := (Below.refl _ _).drew.trans hb1; have hB1 : Below w.heap.size w w1 := hnx.trans (hb2.mono hnx.size); have f1 := hf.below hb2; have r1 := hr.below hb2; have fc1 := (f1.cell k).trans (four_at t k hlt); have ff1 := f1.free k))
      go_wp2
      go_roundw
      case rel =>
        refine ⟨k + 1, by omega, by go_num, hB1.setCell (by simp) _, r1.other (by simp) _, ?_⟩
        rw [← four_set t k hlt]
        exact f1.set k _
      case measure => simp [intOf]; omega
    · obtain rfl : k = 4 := by omega
      have a0 : wr.cell? ⟨w.heap.size + 1, 0, none⟩ = some (.int .u64 (t 0)) := hf.cell 0
      have a1 : wr.cell? ⟨w.heap.size + 1, 1, none⟩ = some (.int .u64 (t 1)) := hf.cell 1
      have a2 : wr.cell? ⟨w.heap.size + 1, 2, none⟩ = some (.int .u64 (t 2)) := hf.cell 2
      have a3 : wr.cell? ⟨w.heap.size + 1, 3, none⟩ = some (.int .u64 (t 3)) := hf.cell 3
      have z0 : wr.cell? ⟨w.heap.size, 0, none⟩ = some (.int .u64 0) := hr.cell 0
      have z1 : wr.cell? ⟨w.heap.size, 1, none⟩ = some (.int .u64 0) := hr.cell 1
      have z2 : wr.cell? ⟨w.heap.size, 2, none⟩ = some (.int .u64 0) := hr.cell 2
      have z3 : wr.cell? ⟨w.heap.size, 3, none⟩ = some (.int .u64 0) := hr.cell 3
      have y0 := hr.free 0
      have y1 := hr.free 1
      have y2 := hr.free 2
      have y3 := hr.free 3
      go_wp2
      refine bodyPost_ret (v := .agg #[.int .u64 (t 0), .int .u64 (t 1), .int .u64 (t 2), .int .u64 (t 3)]) (by simp [results, Ybaf.results9, go_sem, z0, z1, z2, z3]) rfl ⟨rfl, ?_⟩
      exact (((hnx.setCell (Nat.le_refl _) _).setCell (Nat.le_refl _) _).setCell (Nat.le_refl _) _).setCell (Nat.le_refl _) _
end Go.Proofs.YbulkbaliFmt
