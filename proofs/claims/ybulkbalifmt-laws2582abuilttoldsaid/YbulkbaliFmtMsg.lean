import Derived.Test.YbulkbaliFmtParse
import Derived.Test.YbulkbaliFmtShelf
namespace Go.Proofs.YbulkbaliFmt
open Go.RowKit

theorem cellLater {w w' : World} {p : Addr} {v : Value} (h : w.cell? p = some v) (hb : Below w.heap.size w w') : w'.cell? p = some v := (hb.cell (World.block_lt_of_cell? _ _ h)).trans h
theorem SlOf.move {w w' : World} {g : Nat} {v : Value} {bs : List UInt8} (h : SlOf w g v bs) (he : ∀ off, w'.cell? ⟨g, off, none⟩ = w.cell? ⟨g, off, none⟩) : SlOf w' g v bs := by
  obtain ⟨A, c, e, hh⟩ := h
  refine ⟨A, c, e, fun j hj => ?_⟩
  obtain ⟨off, e1, e2⟩ := hh j hj
  exact ⟨off, e1, (he _).trans e2⟩
theorem TlvCells.move {w w' : World} {g : Nat} {its : List (UInt8 × List UInt8)} {xs : List Value} (h : TlvCells w g its xs) (he : ∀ off, w'.cell? ⟨g, off, none⟩ = w.cell? ⟨g, off, none⟩) : TlvCells w' g its xs := by
  refine ⟨h.1, fun k hk => ?_⟩
  obtain ⟨a, v, b, c⟩ := h.2 k hk
  exact ⟨a, v, b, c.move he⟩
theorem own_base {w : World} {B B' e size n : Nat} {v : Value} {xs : List Value} (h : w.ownsRow B' e size v n xs) (hB : B ≤ B') : w.ownsRow B e size v n xs := by
  refine ⟨h.1, ?_⟩
  rcases h.2 with h | ⟨g, cap, cur, a, b, c⟩
  · exact .inl h
  · exact .inr ⟨g, cap, cur, a, Nat.le_trans hB b, c⟩

set_option maxHeartbeats 1000000 in
theorem msg_any (g n c tot : Nat) (b2 b3 : UInt8) (its : List (UInt8 × List UInt8)) (s : ByteArray) (w : World) (h1 : 44 ≤ tot) (h2 : tot ≤ n) (h3 : n ≤ c) (h4 : c ≤ 1000000) (h5 : tot ≤ 65535)
    (e2 : w.cell? ⟨g, 2, none⟩ = some (.int .u8 b2.toNat)) (e3 : w.cell? ⟨g, 3, none⟩ = some (.int .u8 b3.toNat)) (ht : Lib.beNat [b2, b3] = tot)
    (hN : tot - 44 = (enc its).length) (h255 : ∀ x ∈ its, x.2.length ≤ 255)
    (hc : ∀ j (hj : j < (enc its).length), w.cell? ⟨g, 44 + j, none⟩ = some (.int .u8 (enc its)[j].toNat)) (hg : g < w.heap.size) :
    Calls Ybaf.prog 8 #[.slice (some ⟨g, 0, none⟩) n c, .int .i64 44, .string s] w fun e w' => ∃ v xs, e = .returned (.tuple #[v, .nilIface]) ∧ w'.ownsRow w.heap.size 40 2 v its.length xs ∧ TlvCells w g its xs ∧ Below w.heap.size w w' := by
  have HT : Hid (Lib.beNat [b2, b3] = tot) := ht
  have HN : Hid (tot - 44 = (enc its).length) := hN
  have HC : Hid (∀ j (hj : j < (enc its).length), w.cell? ⟨g, 44 + j, none⟩ = some (.int .u8 (enc its)[j].toNat)) := hc
  have H255 : Hid (∀ x ∈ its, x.2.length ≤ 255) := h255
  have cU : Hid (∀ (wx : World), wx.cell? ⟨g, 2, none⟩ = some (.int .u8 b2.toNat) → wx.cell? ⟨g, 3, none⟩ = some (.int .u8 b3.toNat) → ∀ cc, Calls Ybaf.prog 13 #[.agg #[], .slice (some ⟨g, 2, none⟩) 2 cc] wx fun e w' => e = .returned (.int .u16 (tot : Nat)) ∧ Below wx.heap.size wx w') := by
    intro wx k1 k2 cc
    have := Ybaf.binary_BE_Uint16 g 2 2 cc b2 b3 wx (Nat.le_refl _) k1 k2
    rw [HT.out] at this
    exact this
  have f1 : ¬ (n : Int) < 44 := by omega
  have f2 : ¬ (tot : Int) < 44 := by omega
  have f3 : ¬ (n : Int) < tot := by omega
  have hsl : ∀ w', (Instr.slice 22 (.slice (some ⟨g, 0, none⟩) n c) (some (.int .i64 2)) (some (.int .i64 4)) none).run Ybaf.prog w' = .ok (.slice (some ⟨g, 2, none⟩) 2 (c - 2)) w' := by
    intro w'
    rw [run_slice_lh w' 22 (some ⟨g, 0, none⟩) n c Ybaf.underlying22 .i64 .i64 2 4 (by omega) (by omega) (by omega)]
    simp [go_sem, sliced, show ¬ c = 2 by omega]
  clear ht hN hc h255
  go_enter Ybaf.func8, Ybaf.ntmps8
  go_upto_region 3 with fail
  go_cut [8] (fun nn wx => nn = .int .i64 (tot : Nat) ∧ Below w.heap.size w wx)
  case first =>
    go_region_held3 (fun w' => w'.cell? ⟨g, 2, none⟩ = some (.int .u8 b2.toNat) ∧ w'.cell? ⟨g, 3, none⟩ = some (.int .u8 b3.toNat) ∧ Below w.heap.size w w') (first | assumption | exact ⟨e2, e3, (Below.refl _ _).drew⟩ | exact ⟨by assumption, by assumption, by assumption⟩)
      (first
        | (go_at_call 13; refine (cU.out _ (by assumption) (by assumption) _).mono ?_; rintro e w1 ⟨rfl, hb1⟩; have hB1 : Below w.heap.size w w1 := (Below.refl _ _).drew.trans hb1; have k2 := (hB1.cell (p := ⟨g, 2, none⟩) hg).trans e2; have k3 := (hB1.cell (p := ⟨g, 3, none⟩) hg).trans e3))
    go_wp2_with fail
    go_meet
    exact ⟨by rw [show IntKind.i64.wrap (tot : Int) = tot from by rw [IntKind.wrap_i64]; omega], hB1⟩
  case rest =>
    obtain ⟨rfl, hb⟩ := hcut
    have hsl2 : ∀ w', (Instr.slice 22 (.slice (some ⟨g, 0, none⟩) n c) (some (.int .i64 44)) (some (.int .i64 (tot : Int))) none).run Ybaf.prog w' = .ok (.slice (if c = 44 then some ⟨g, 0, none⟩ else some ⟨g, 44, none⟩) (tot - 44) (c - 44)) w' := by
      intro w'
      rw [run_slice_lh w' 22 (some ⟨g, 0, none⟩) n c Ybaf.underlying22 .i64 .i64 44 (tot : Int) (by omega) (by omega) (by omega)]
      simp [go_sem, sliced]
    obtain ⟨A, hA1, hA2⟩ := cutAt (c = 44) ⟨g, 0, none⟩ ⟨g, 44, none⟩ (0 < tot - 44) (by omega)
    rw [hA1] at hsl2
    clear hA1 hsl e2 e3
    go_wp2_with fail
    refine (parse_any g 44 (c - 44) (some A) its (tot - 44) wc HN.out (by omega) (by omega) (by omega) H255.out ?_ ?_ ?_).mono ?_
    · intro h; rw [hA2.out h]
    · intro j hj; rw [hb.cell (by exact hg)]; exact HC.out j hj
    · have := hb.size; omega
    rintro e w2 ⟨v, xs, rfl, hown, hcells, hb2⟩
    clear hsl2
    go_wp2
    go_ret2
    exact ⟨_, _, rfl, own_base hown hb.size, hcells.move (fun off => (hb.cell (p := ⟨g, off, none⟩) hg).symm), hb.trans (hb2.mono hb.size)⟩
end Go.Proofs.YbulkbaliFmt
