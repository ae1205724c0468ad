import Derived.Test.YbulkbaliFmtFour
namespace Go.Proofs.YbulkbaliFmt
open Go.RowKit

set_option maxHeartbeats 400000 in
theorem split_any (wd : Nat) (w : World) :
    Calls Ybaf.prog 10 #[.int .u32 wd] w fun e w' => e = .returned (.tuple #[.int .u32 ((wd : Int) / 64), .int .u8 (IntKind.u8.wrap (bits .and .u32 (wd : Int) 63))]) ∧ w' = w := by
  go_enter Ybaf.func10, Ybaf.ntmps10
  go_wp2
  go_ret2
  exact ⟨rfl, rfl⟩

theorem own_shape {w : World} {base e size n : Nat} {v : Value} {xs : List Value} (h : w.ownsRow base e size v n xs) : ∃ A c, v = .slice A n c := by
  rcases h.2 with ⟨rfl, rfl⟩ | ⟨g, cap, cur, rfl, _⟩
  · exact ⟨_, _, rfl⟩
  · exact ⟨_, _, rfl⟩

abbrev Four (w : World) (g : Nat) (x0 x1 x4 x5 : Nat) : Prop := w.cell? ⟨g, 0, none⟩ = some (.int .u8 x0) ∧ w.cell? ⟨g, 1, none⟩ = some (.int .u8 x1) ∧ w.cell? ⟨g, 4, none⟩ = some (.int .u8 x4) ∧ w.cell? ⟨g, 5, none⟩ = some (.int .u8 x5)
theorem four_later {w w' : World} {g x0 x1 x4 x5 : Nat} (h : Four w g x0 x1 x4 x5) (hb : Below w.heap.size w w') : Four w' g x0 x1 x4 x5 := ⟨cellLater h.1 hb, cellLater h.2.1 hb, cellLater h.2.2.1 hb, cellLater h.2.2.2 hb⟩
theorem four_drew {w : World} {g x0 x1 x4 x5 : Nat} (h : Four w g x0 x1 x4 x5) : Four w.drew g x0 x1 x4 x5 := h
theorem four_alloc {w : World} {g x0 x1 x4 x5 : Nat} {o : Obj} (h : Four w g x0 x1 x4 x5) : Four (w.alloc o) g x0 x1 x4 x5 := four_later h ((Below.refl _ _).alloc (Nat.le_refl _) _)
theorem four_alloc_drew {w : World} {g x0 x1 x4 x5 : Nat} {o : Obj} (h : Four w g x0 x1 x4 x5) : Four (w.alloc o).drew g x0 x1 x4 x5 := four_alloc h
theorem own_later {w w' : World} {base e size n : Nat} {v : Value} {xs : List Value} (h : w.ownsRow base e size v n xs) (hb : Below w.heap.size w w') : w'.ownsRow base e size v n xs := by
  refine ⟨h.1, ?_⟩
  rcases h.2 with h | ⟨g, cap, cur, a, b, c, d⟩
  · exact .inl h
  · exact .inr ⟨g, cap, cur, a, b, (hb.block g (lt_of_block c)).trans c, d⟩
theorem four_set1 {w : World} {g x0 x1 x4 x5 b j : Nat} {u : Value} (h : Four w g x0 x1 x4 x5) (hg : g < b) : Four (w.setCell ⟨b, j, none⟩ u) g x0 x1 x4 x5 := by
  have e : ∀ off, (w.setCell ⟨b, j, none⟩ u).cell? ⟨g, off, none⟩ = w.cell? ⟨g, off, none⟩ := fun off => World.cell?_of_block (Below.heap_setCell _ _ _ _ (by simp; omega))
  exact ⟨(e _).trans h.1, (e _).trans h.2.1, (e _).trans h.2.2.1, (e _).trans h.2.2.2⟩
theorem four_far {w : World} {g x0 x1 x4 x5 b : Nat} {u0 u1 u2 u3 u4 u5 u6 u7 u8 u9 u10 u11 u12 u13 : Value} (h : Four w g x0 x1 x4 x5) (hg : g < b) : Four ((((((((((((((w.setCell ⟨b, 0, none⟩ u0).setCell ⟨b, 1, none⟩ u1).setCell ⟨b, 2, none⟩ u2).setCell ⟨b, 3, none⟩ u3).setCell ⟨b, 4, none⟩ u4).setCell ⟨b, 5, none⟩ u5).setCell ⟨b, 6, none⟩ u6).setCell ⟨b, 7, none⟩ u7).setCell ⟨b, 8, none⟩ u8).setCell ⟨b, 9, none⟩ u9).setCell ⟨b, 10, none⟩ u10).setCell ⟨b, 11, none⟩ u11).setCell ⟨b, 12, none⟩ u12).setCell ⟨b, 13, none⟩ u13) g x0 x1 x4 x5 :=
  (four_set1 (four_set1 (four_set1 (four_set1 (four_set1 (four_set1 (four_set1 (four_set1 (four_set1 (four_set1 (four_set1 (four_set1 (four_set1 (four_set1 h hg) hg) hg) hg) hg) hg) hg) hg) hg) hg) hg) hg) hg) hg)
theorem below_alloc1 (w : World) (o : Obj) : Below w.heap.size w (w.alloc o) := (Below.refl _ _).alloc (Nat.le_refl _) _

theorem hide2 {p : Prop} (h : p) : Hid p := h
theorem blk14 {w : World} {b : Nat} {a0 a1 a2 a3 a4 a5 a6 a7 a8 a9 a10 a11 a12 a13 : Value} (h : Blk w b 31 [a0, a1, a2, a3, a4, a5, a6, a7, a8, a9, a10, a11, a12, a13]) : (w.cell? ⟨b, 0, none⟩ = some a0 ∧ w.cell? ⟨b, 1, none⟩ = some a1 ∧ w.cell? ⟨b, 2, none⟩ = some a2 ∧ w.cell? ⟨b, 3, none⟩ = some a3 ∧ w.cell? ⟨b, 4, none⟩ = some a4 ∧ w.cell? ⟨b, 5, none⟩ = some a5 ∧ w.cell? ⟨b, 6, none⟩ = some a6 ∧ w.cell? ⟨b, 7, none⟩ = some a7 ∧ w.cell? ⟨b, 8, none⟩ = some a8 ∧ w.cell? ⟨b, 9, none⟩ = some a9 ∧ w.cell? ⟨b, 10, none⟩ = some a10 ∧ w.cell? ⟨b, 11, none⟩ = some a11 ∧ w.cell? ⟨b, 12, none⟩ = some a12 ∧ w.cell? ⟨b, 13, none⟩ = some a13) ∧ (w.frozen? ⟨b, 0, none⟩ = false ∧ w.frozen? ⟨b, 1, none⟩ = false ∧ w.frozen? ⟨b, 2, none⟩ = false ∧ w.frozen? ⟨b, 3, none⟩ = false ∧ w.frozen? ⟨b, 4, none⟩ = false ∧ w.frozen? ⟨b, 5, none⟩ = false ∧ w.frozen? ⟨b, 6, none⟩ = false ∧ w.frozen? ⟨b, 7, none⟩ = false ∧ w.frozen? ⟨b, 8, none⟩ = false ∧ w.frozen? ⟨b, 9, none⟩ = false ∧ w.frozen? ⟨b, 10, none⟩ = false ∧ w.frozen? ⟨b, 11, none⟩ = false ∧ w.frozen? ⟨b, 12, none⟩ = false ∧ w.frozen? ⟨b, 13, none⟩ = false) :=
  ⟨⟨h.cell 0, h.cell 1, h.cell 2, h.cell 3, h.cell 4, h.cell 5, h.cell 6, h.cell 7, h.cell 8, h.cell 9, h.cell 10, h.cell 11, h.cell 12, h.cell 13⟩, ⟨h.free 0, h.free 1, h.free 2, h.free 3, h.free 4, h.free 5, h.free 6, h.free 7, h.free 8, h.free 9, h.free 10, h.free 11, h.free 12, h.free 13⟩⟩

theorem blk_set14 {w : World} {b t : Nat} {a0 a1 a2 a3 a4 a5 a6 a7 a8 a9 a10 a11 a12 a13 u0 u1 u2 u3 u4 u5 u6 u7 u8 u9 u10 u11 u12 u13 : Value} (h : Blk w b t [a0, a1, a2, a3, a4, a5, a6, a7, a8, a9, a10, a11, a12, a13]) : Blk ((((((((((((((w.setCell ⟨b, 0, none⟩ u0).setCell ⟨b, 1, none⟩ u1).setCell ⟨b, 2, none⟩ u2).setCell ⟨b, 3, none⟩ u3).setCell ⟨b, 4, none⟩ u4).setCell ⟨b, 5, none⟩ u5).setCell ⟨b, 6, none⟩ u6).setCell ⟨b, 7, none⟩ u7).setCell ⟨b, 8, none⟩ u8).setCell ⟨b, 9, none⟩ u9).setCell ⟨b, 10, none⟩ u10).setCell ⟨b, 11, none⟩ u11).setCell ⟨b, 12, none⟩ u12).setCell ⟨b, 13, none⟩ u13) b t [u0, u1, u2, u3, u4, u5, u6, u7, u8, u9, u10, u11, u12, u13] :=
  ((((((((((((((h.set 0 _).set 1 _).set 2 _).set 3 _).set 4 _).set 5 _).set 6 _).set 7 _).set 8 _).set 9 _).set 10 _).set 11 _).set 12 _).set 13 _)
theorem below_set14 {W w : World} {B b : Nat} {u0 u1 u2 u3 u4 u5 u6 u7 u8 u9 u10 u11 u12 u13 : Value} (h : Below B W w) (hb : B ≤ b) : Below B W ((((((((((((((w.setCell ⟨b, 0, none⟩ u0).setCell ⟨b, 1, none⟩ u1).setCell ⟨b, 2, none⟩ u2).setCell ⟨b, 3, none⟩ u3).setCell ⟨b, 4, none⟩ u4).setCell ⟨b, 5, none⟩ u5).setCell ⟨b, 6, none⟩ u6).setCell ⟨b, 7, none⟩ u7).setCell ⟨b, 8, none⟩ u8).setCell ⟨b, 9, none⟩ u9).setCell ⟨b, 10, none⟩ u10).setCell ⟨b, 11, none⟩ u11).setCell ⟨b, 12, none⟩ u12).setCell ⟨b, 13, none⟩ u13) :=
  ((((((((((((((h.setCell hb _).setCell hb _).setCell hb _).setCell hb _).setCell hb _).setCell hb _).setCell hb _).setCell hb _).setCell hb _).setCell hb _).setCell hb _).setCell hb _).setCell hb _).setCell hb _)
theorem own_set14 {w : World} {base e size n b : Nat} {v : Value} {xs : List Value} {u0 u1 u2 u3 u4 u5 u6 u7 u8 u9 u10 u11 u12 u13 : Value} (h : w.ownsRow base e size v n xs) (hb : b < base) : World.ownsRow ((((((((((((((w.setCell ⟨b, 0, none⟩ u0).setCell ⟨b, 1, none⟩ u1).setCell ⟨b, 2, none⟩ u2).setCell ⟨b, 3, none⟩ u3).setCell ⟨b, 4, none⟩ u4).setCell ⟨b, 5, none⟩ u5).setCell ⟨b, 6, none⟩ u6).setCell ⟨b, 7, none⟩ u7).setCell ⟨b, 8, none⟩ u8).setCell ⟨b, 9, none⟩ u9).setCell ⟨b, 10, none⟩ u10).setCell ⟨b, 11, none⟩ u11).setCell ⟨b, 12, none⟩ u12).setCell ⟨b, 13, none⟩ u13) base e size v n xs :=
  ownsRow_setCell_below (ownsRow_setCell_below (ownsRow_setCell_below (ownsRow_setCell_below (ownsRow_setCell_below (ownsRow_setCell_below (ownsRow_setCell_below (ownsRow_setCell_below (ownsRow_setCell_below (ownsRow_setCell_below (ownsRow_setCell_below (ownsRow_setCell_below (ownsRow_setCell_below (ownsRow_setCell_below h hb _) hb _) hb _) hb _) hb _) hb _) hb _) hb _) hb _) hb _) hb _) hb _) hb _) hb _

/-- The message that is parsed. -/
def dm (x0 x1 x4 x5 wd : Nat) (t : Nat → Nat) (v : Value) : Array Value := #[.int .u8 ((x0 : Int) / 16), .bool (bits .and .u8 (x0 : Int) 8 != 0), .bool (bits .and .u8 (x0 : Int) 4 != 0), .int .u8 x1, .int .u8 ((x4 : Int) / 16), .int .u8 (bits .and .u8 (x4 : Int) 15), .int .u8 ((x5 : Int) / 16), .int .u32 ((wd : Int) / 64), .int .u8 (bits .and .u32 (wd : Int) 63 % 256), .int .u64 (t 0), .int .u64 (t 1), .int .u64 (t 2), .int .u64 (t 3), v]

set_option maxHeartbeats 1000000 in
theorem delay_any (g n c tot wd : Nat) (bs : List UInt8) (x0 x1 x4 x5 : Nat) (its : List (UInt8 × List UInt8)) (t : Nat → Nat) (w : World) (hn : bs.length = n) (h1 : 44 ≤ tot) (h2 : tot ≤ n) (h3 : n ≤ c) (h4 : c ≤ 1000000) (h5 : tot ≤ 65535)
    (hc : ∀ j (hj : j < bs.length), w.cell? ⟨g, j, none⟩ = some (.int .u8 bs[j].toNat)) (hg : g < w.heap.size)
    (e0 : w.cell? ⟨g, 0, none⟩ = some (.int .u8 x0)) (e1 : w.cell? ⟨g, 1, none⟩ = some (.int .u8 x1)) (e4 : w.cell? ⟨g, 4, none⟩ = some (.int .u8 x4)) (e5 : w.cell? ⟨g, 5, none⟩ = some (.int .u8 x5))
    (ht : Lib.beNat [bs[2], bs[3]] = tot) (hw : Lib.beNat [bs[8], bs[9], bs[10], bs[11]] = wd)
    (hN : tot - 44 = (enc its).length) (h255 : ∀ x ∈ its, x.2.length ≤ 255) (hi : ∀ j (hj : j < (enc its).length), bs[44 + j]? = some (enc its)[j])
    (h4t : ∀ k (hk : k < 4), Lib.beNat [bs[12 + 8 * k], bs[12 + (8 * k + 1)], bs[12 + (8 * k + 2)], bs[12 + (8 * k + 3)], bs[12 + (8 * k + 4)], bs[12 + (8 * k + 5)], bs[12 + (8 * k + 6)], bs[12 + (8 * k + 7)]] = t k) :
    Calls Ybaf.prog 5 #[.slice (some ⟨g, 0, none⟩) n c] w fun e w' => ∃ v xs, e = .returned (.tuple #[.agg (dm x0 x1 x4 x5 wd t v), .nilIface]) ∧ w'.ownsRow w.heap.size 40 2 v its.length xs ∧ TlvCells w g its xs ∧ Below w.heap.size w w' := by
  have HM : Hid (∀ (s : ByteArray) (wx : World), Below w.heap.size w wx → Calls Ybaf.prog 8 #[.slice (some ⟨g, 0, none⟩) n c, .int .i64 44, .string s] wx fun e w' => ∃ v xs, e = .returned (.tuple #[v, .nilIface]) ∧ w'.ownsRow wx.heap.size 40 2 v its.length xs ∧ TlvCells wx g its xs ∧ Below wx.heap.size wx w') := by
    intro s wx hb
    have hcx : ∀ j (hj : j < bs.length), wx.cell? ⟨g, j, none⟩ = some (.int .u8 bs[j].toNat) := fun j hj => (hb.cell (by exact hg)).trans (hc j hj)
    refine msg_any g n c tot (bs[2]'(by omega)) (bs[3]'(by omega)) its s wx h1 h2 h3 h4 h5 (hcx 2 (by omega)) (hcx 3 (by omega)) ht hN h255 (fun j hj => ?_) (Nat.lt_of_lt_of_le hg hb.size)
    obtain ⟨q1, q2⟩ := List.getElem?_eq_some_iff.1 (hi j hj)
    rw [hcx (44 + j) q1, q2]
  have HF : Hid (∀ (wx : World), Below w.heap.size w wx → Calls Ybaf.prog 9 #[.slice (some ⟨g, 12, none⟩) (n - 12) (c - 12)] wx fun e w' => e = .returned (.agg #[.int .u64 (t 0), .int .u64 (t 1), .int .u64 (t 2), .int .u64 (t 3)]) ∧ Below wx.heap.size wx w') := by
    intro wx hb
    refine four_any g 12 (n - 12) (c - 12) t ((bs.drop 12).take 32) wx (by simp; omega) (by omega) (by omega) (by omega) (Nat.lt_of_lt_of_le hg hb.size) (fun j hj => ?_) (fun k hk => ?_)
    · rw [hb.cell (by exact hg)]
      simp at hj ⊢
      exact hc (12 + j) (by omega)
    · simp
      exact h4t k hk
  have HU : Hid (∀ (wx : World) (cc : Nat), Below w.heap.size w wx → Calls Ybaf.prog 11 #[.agg #[], .slice (some ⟨g, 8, none⟩) 4 cc] wx fun e w' => e = .returned (.int .u32 wd) ∧ Below wx.heap.size wx w') := by
    intro wx cc hb
    have hcx : ∀ j (hj : j < bs.length), wx.cell? ⟨g, j, none⟩ = some (.int .u8 bs[j].toNat) := fun j hj => (hb.cell (by exact hg)).trans (hc j hj)
    have := Ybaf.binary_BE_Uint32 g 8 4 cc (bs[8]'(by omega)) (bs[9]'(by omega)) (bs[10]'(by omega)) (bs[11]'(by omega)) wx (Nat.le_refl _) (hcx 8 (by omega)) (hcx 9 (by omega)) (hcx 10 (by omega)) (hcx 11 (by omega))
    rw [hw] at this
    exact this
  have hsl12 : ∀ w', (Instr.slice 22 (.slice (some ⟨g, 0, none⟩) n c) (some (.int .i64 12)) none none).run Ybaf.prog w' = .ok (.slice (some ⟨g, 12, none⟩) (n - 12) (c - 12)) w' := by
    intro w'
    rw [run_slice_l w' 22 (some ⟨g, 0, none⟩) n c Ybaf.underlying22 .i64 12 (by omega) (by omega)]
    simp [go_sem, sliced, show ¬ c = 12 by omega]
  have hsl8 : ∀ w', (Instr.slice 22 (.slice (some ⟨g, 0, none⟩) n c) (some (.int .i64 8)) (some (.int .i64 12)) none).run Ybaf.prog w' = .ok (.slice (some ⟨g, 8, none⟩) 4 (c - 8)) w' := by
    intro w'
    rw [run_slice_lh w' 22 (some ⟨g, 0, none⟩) n c Ybaf.underlying22 .i64 .i64 8 12 (by omega) (by omega) (by omega)]
    simp [go_sem, sliced, show ¬ c = 8 by omega]
  have n0 : 0 < n := by omega
  have n1 : (1 : Int) < n := by omega
  have n4 : (4 : Int) < n := by omega
  have n5 : (5 : Int) < n := by omega
  clear hc ht hw hN h255 hi h4t hn
  go_enter Ybaf.func5, Ybaf.ntmps5
  go_wp2_with fail
  refine (HM.out _ _ ((Below.refl _ _).alloc (Nat.le_refl _) _)).mono ?_
  rintro e w1 ⟨v, xs, rfl, hown, hcells, hb1⟩
  have hB1 : Below w.heap.size w w1 := ((Below.refl _ _).alloc (Nat.le_refl _) _).trans (hb1.mono (by simp))
  have hR1 : Blk w1 w.heap.size 31 [.int .u8 0, .bool false, .bool false, .int .u8 0, .int .u8 0, .int .u8 0, .int .u8 0, .int .u32 0, .int .u8 0, .int .u64 0, .int .u64 0, .int .u64 0, .int .u64 0, .slice none 0 0] := (hb1.block _ (by simp)).trans (heap_alloc_new w _)
  rw [World.size_alloc] at hown
  obtain ⟨vA, vc, rfl⟩ := own_shape hown
  have HO : Hid (w1.ownsRow (w.heap.size + 1) 40 2 (.slice vA its.length vc) its.length xs) := hown
  have HC : Hid (TlvCells w g its xs) := hcells.move (fun off => by rw [World.cell?_alloc_lt _ _ _ (by exact hg)])
  have d0 := (hB1.cell (p := ⟨g, 0, none⟩) hg).trans e0
  have d1 := (hB1.cell (p := ⟨g, 1, none⟩) hg).trans e1
  have d4 := (hB1.cell (p := ⟨g, 4, none⟩) hg).trans e4
  have d5 := (hB1.cell (p := ⟨g, 5, none⟩) hg).trans e5
  clear hb1 hown hcells HM e0 e1 e4 e5
  go_upto_region 4 with fail
  have hS1 : Four w1 g x0 x1 x4 x5 := ⟨d0, d1, d4, d5⟩
  have hg1 : g < w1.heap.size := Nat.lt_of_lt_of_le hg hB1.size
  go_cut [6] (fun mp wc => ∃ mb, mp = .pointer (some ⟨mb, 0, none⟩) ∧ w1.heap.size ≤ mb ∧ Below w1.heap.size w1 wc ∧
    Blk wc mb 31 [.int .u8 ((x0 : Int) / 16), .bool (bits .and .u8 (x0 : Int) 8 != 0), .bool (bits .and .u8 (x0 : Int) 4 != 0), .int .u8 x1, .int .u8 ((x4 : Int) / 16), .int .u8 (bits .and .u8 (x4 : Int) 15), .int .u8 ((x5 : Int) / 16), .int .u32 0, .int .u8 0, .int .u64 (t 0), .int .u64 (t 1), .int .u64 (t 2), .int .u64 (t 3), .slice vA its.length vc])
  case first =>
    go_region_held3 (fun w' => w'.cell? ⟨g, 0, none⟩ = some (.int .u8 x0) ∧ w'.cell? ⟨g, 1, none⟩ = some (.int .u8 x1) ∧ w'.cell? ⟨g, 4, none⟩ = some (.int .u8 x4) ∧ w'.cell? ⟨g, 5, none⟩ = some (.int .u8 x5)) (first | with_reducible assumption | with_reducible exact four_drew hS1 | with_reducible exact four_alloc_drew hS1 | with_reducible exact four_alloc hS2 | with_reducible exact four_far hS2 hg1)
      (first
        | (go_at_call 9; refine Calls.mono (HF.out _ ?_) ?_; (focus first | exact hB1.drew | exact (hB1.alloc hB1.size _).drew); rintro e w2 ⟨rfl, hb2⟩; have hb2' : Below w1.heap.size w1 w2 := (by first | exact (Below.refl _ _).drew.trans hb2 | exact (below_alloc1 _ _).drew.trans (hb2.mono (by simp))); have hS2 := four_later hS1 hb2'; (try (have hM2 : Blk w2 w1.heap.size 31 [.int .u8 0, .bool false, .bool false, .int .u8 0, .int .u8 0, .int .u8 0, .int .u8 0, .int .u32 0, .int .u8 0, .int .u64 0, .int .u64 0, .int .u64 0, .int .u64 0, .slice none 0 0] := (hb2.block w1.heap.size (by simp)).trans (heap_alloc_new w1 _); obtain ⟨mc, mf⟩ := blk14 hM2))))
    · go_wp2_with fail
      go_meet
      exact ⟨w2.heap.size, rfl, hb2'.size, hb2'.alloc hb2'.size _, heap_alloc_new w2 _⟩
    · go_wp2_with fail
      go_meet
      exact ⟨w1.heap.size, rfl, Nat.le_refl _, below_set14 hb2' (Nat.le_refl _), blk_set14 hM2⟩
  case rest =>
    obtain ⟨mb, rfl, hmb, hbc, hM⟩ := hcut
    clear hS1 d0 d1 d4 d5 HF hsl12 n0 n1 n4 n5
    have hBc : Below w.heap.size w wc := hB1.trans (hbc.mono hB1.size)
    go_upto_region 5 with fail
    go_cut [] (fun wd' => Below w1.heap.size w1 wd' ∧
      Blk wd' mb 31 [.int .u8 ((x0 : Int) / 16), .bool (bits .and .u8 (x0 : Int) 8 != 0), .bool (bits .and .u8 (x0 : Int) 4 != 0), .int .u8 x1, .int .u8 ((x4 : Int) / 16), .int .u8 (bits .and .u8 (x4 : Int) 15), .int .u8 ((x5 : Int) / 16), .int .u32 ((wd : Int) / 64), .int .u8 (IntKind.u8.wrap (bits .and .u32 (wd : Int) 63)), .int .u64 (t 0), .int .u64 (t 1), .int .u64 (t 2), .int .u64 (t 3), .slice vA its.length vc])
    case first =>
      go_region_held3 (fun w' => True) (trivial)
        (first
          | (go_at_call 11; refine Calls.mono (HU.out _ _ ?_) ?_; (focus exact hBc.drew); rintro e w3 ⟨rfl, hb3⟩; have hb3' : Below wc.heap.size wc w3 := (Below.refl _ _).drew.trans hb3; have hM3 := hM.below hb3'; have m7 : w3.cell? ⟨mb, 7, none⟩ = some (.int .u32 0) := hM3.cell 7; have m8 : w3.cell? ⟨mb, 8, none⟩ = some (.int .u8 0) := hM3.cell 8; have f7 := hM3.free 7; have f8 := hM3.free 8)
          | (go_at_call 10; refine Calls.mono (split_any wd _) ?_; rintro e w4 ⟨rfl, hw4⟩; rw [hw4]))
      go_wp2_with fail
      go_meet
      exact ⟨((hbc.trans (hb3'.mono hbc.size)).setCell hmb _).setCell hmb _, (hM3.set 7 _).set 8 _⟩
    case rest =>
      obtain ⟨hbd, hMd⟩ := hcut
      obtain ⟨mc, _⟩ := blk14 hMd
      obtain ⟨rc, rf⟩ := blk14 (hR1.below hbd)
      have HRd := hide2 (hR1.below hbd)
      have HMd := hide2 hMd
      have hne : ¬ mb = w.heap.size := by have := hR1.lt; omega
      clear hMd hR1 hM HU hsl8 hbc hBc
      go_wp2
      refine bodyPost_ret (v := .tuple #[.agg (dm x0 x1 x4 x5 wd t (.slice vA its.length vc)), .nilIface]) ?_ rfl ⟨_, _, rfl, own_base (own_set14 (own_later HO.out hbd) (Nat.lt_succ_self _)) (Nat.le_succ _), HC.out, below_set14 (hB1.trans (hbd.mono hB1.size)) (Nat.le_refl _)⟩
      simp [results, Ybaf.results5, go_sem, dm, rc]
end Go.Proofs.YbulkbaliFmt
