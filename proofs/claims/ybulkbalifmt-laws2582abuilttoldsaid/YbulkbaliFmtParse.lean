import Derived.Test.YbulkbaliFmtEq
import Derived.Deep.RegionHeld3
import Derived.Deep.DeepCutAuto
namespace Go.Proofs.YbulkbaliFmt
open Go.RowKit

/-- The TLV block of a list of objects. -/
def enc : List (UInt8 × List UInt8) → List UInt8
  | [] => []
  | x :: r => x.1 :: x.2.length.toUInt8 :: (x.2 ++ enc r)
theorem enc_append (a b : List (UInt8 × List UInt8)) : enc (a ++ b) = enc a ++ enc b := by
  induction a with
  | nil => rfl
  | cons x r ih => simp [enc, ih]
theorem enc_one (x : UInt8 × List UInt8) : (enc [x]).length = 2 + x.2.length := by simp [enc]; omega
theorem enc_split (its : List (UInt8 × List UInt8)) (k : Nat) (h : k < its.length) : enc its = enc (its.take k) ++ (its[k].1 :: its[k].2.length.toUInt8 :: (its[k].2 ++ enc (its.drop (k + 1)))) := by
  have e : its = its.take k ++ (its[k] :: its.drop (k + 1)) := by rw [List.getElem_cons_drop, List.take_append_drop]
  calc enc its = enc (its.take k ++ (its[k] :: its.drop (k + 1))) := by rw [← e]
    _ = _ := by rw [enc_append]; rfl
theorem enc_take (its : List (UInt8 × List UInt8)) (k : Nat) (h : k < its.length) : (enc (its.take (k + 1))).length = (enc (its.take k)).length + (2 + its[k].2.length) := by
  rw [List.take_succ_eq_append_getElem h, enc_append, List.length_append, enc_one]

theorem enc_ge (its : List (UInt8 × List UInt8)) : 2 * its.length ≤ (enc its).length := by
  induction its with
  | nil => simp [enc]
  | cons x r ih => simp [enc]; omega

/-- What one object's bytes are, at their places. -/
theorem enc_at (its : List (UInt8 × List UInt8)) (k p : Nat) (h : k < its.length) (hp : p = (enc (its.take k)).length) :
    (enc its)[p]? = some its[k].1 ∧ (enc its)[p + 1]? = some its[k].2.length.toUInt8 ∧ (∀ j (hj : j < its[k].2.length), (enc its)[p + 2 + j]? = some its[k].2[j]) ∧ p + 2 + its[k].2.length + (enc (its.drop (k + 1))).length = (enc its).length := by
  subst hp
  rw [enc_split its k h]
  refine ⟨?_, ?_, fun j hj => ?_, by simp; omega⟩
  · rw [List.getElem?_append_right (Nat.le_refl _)]; simp
  · rw [List.getElem?_append_right (by omega)]; simp
  · rw [List.getElem?_append_right (by omega), show (enc (its.take k)).length + 2 + j - (enc (its.take k)).length = j + 1 + 1 by omega]
    simp only [List.getElem?_cons_succ]
    rw [List.getElem?_append_left hj, List.getElem?_eq_getElem hj]

theorem Ybaf.info40 : (Ybaf.prog.info? 40).map (fun i => (i.zero, i.size, i.bytes)) = some (some (.agg #[.int .u8 0, .slice none 0 0]), 2, 32) := by kernel_rfl

/-- v is a slice of the bytes bs, in block g. -/
def SlOf (w : World) (g : Nat) (v : Value) (bs : List UInt8) : Prop :=
  ∃ A c, v = .slice A bs.length c ∧ ∀ j (h : j < bs.length), ∃ off, A = some ⟨g, off, none⟩ ∧ w.cell? ⟨g, off + j, none⟩ = some (.int .u8 bs[j].toNat)
/-- The cells of the parsed objects. -/
def TlvCells (w : World) (g : Nat) (its : List (UInt8 × List UInt8)) (xs : List Value) : Prop :=
  xs.length = 2 * its.length ∧ ∀ k (h : k < its.length), xs[2 * k]? = some (.int .u8 its[k].1.toNat) ∧ ∃ v, xs[2 * k + 1]? = some v ∧ SlOf w g v its[k].2

/-- append to a row of the call's own, as one step of a region that draws. -/
theorem step_append_mine {P : Program} {ops : Array Oper} {o : Oper} {a : Act} {w : World} {K : Act → World → Prop} {Q : Exit → Act → World → Prop} {E : Prop}
    (hg : o.guard = none) (s x : Operand) (t : TypeId) (hop : o.op = Op.call { callee := Callee.builtin Builtin.append, args := #[s, x], argTypes := #[t, t] })
    (base : Nat) (e : TypeId) (i : TypeInfo) (z : Value) (size bytes : Nat) (h1 : P.underlying t = some (.slice e)) (h2 : P.info? e = some i) (h3 : i.zero = some z) (h4 : i.size = size) (h5 : i.bytes = bytes) (h6 : z.cells.size = size) (h7 : 0 < size)
    (v : Value) (n : Nat) (xs : List Value) (hs : a.eval s = v) (hown : w.ownsRow base e size v n xs)
    (ad : Addr) (m c : Nat) (news : List Value) (hx : a.eval x = .slice (some ad) m c) (hn : news.length = m * size) (hc : ∀ j u, news[j]? = some u → w.cell? (ad.add j) = some u) (h1c : ∀ u ∈ news, u.oneCell' = true)
    (b1 : n + m ≤ maxLen) (b2 : (n + m) * bytes ≤ 140737488355328) (b3 : base ≤ w.heap.size)
    (hK : ∀ v' w', w'.ownsRow base e size v' (n + m) (xs ++ news) → w.grownBy w' v.ownBlock → K (a.put o.dst v') w') :
    if Region.wanted o (yielded ops a.tmps) = true then Oper.wp P o a w K Q else E := by
  have hw : Region.wanted o (yielded ops a.tmps) = true := by simp [Region.wanted, hg]
  rw [if_pos hw]
  obtain ⟨v', w', hrun, r1, r2, _⟩ := run_append_own (P := P) w base t o.type e i z size bytes h1 h2 h3 h4 h5 h6 h7 v n xs hown ad m c news hn hc h1c b1 b2 b3
  unfold Oper.wp
  simp [execOp, hop, resolve, invoke, builtin, hs, hx, hrun, Result.andThen]
  exact hK v' w' r1 r2

theorem cell_two_new (w : World) (x y : Value) (t : TypeId) : ∀ j u, [x, y][j]? = some u → (w.alloc (.cells #[x, y] t)).cell? ((⟨w.heap.size, 0, none⟩ : Addr).add j) = some u := by
  intro j u hj
  match j, hj with
  | 0, hj => simp at hj; subst hj; simp [Addr.add]
  | 1, hj => simp at hj; subst hj; simp [Addr.add]
  | (j + 2), hj => simp at hj

theorem cutAt (q : Prop) [Decidable q] (x y : Addr) (r : Prop) (h : r → ¬ q) : ∃ A : Addr, (if q then some x else some y) = some A ∧ Hid (r → A = y) := by
  by_cases hq : q
  · exact ⟨x, if_pos hq, fun hr => absurd hq (h hr)⟩
  · exact ⟨y, if_neg hq, fun _ => rfl⟩

theorem own_ge {w : World} {base e size n : Nat} {v : Value} {xs : List Value} (h : w.ownsRow base e size v n xs) : ∀ k, v.ownBlock = some k → base ≤ k := by
  intro k hk
  rcases h.2 with ⟨rfl, _⟩ | ⟨g, cap, cur, rfl, hb, _⟩
  · simp [Value.ownBlock] at hk
  · simp [Value.ownBlock] at hk; omega

theorem TlvCells.snoc {w : World} {g : Nat} {its : List (UInt8 × List UInt8)} {k : Nat} {xs : List Value} {v : Value} (h : TlvCells w g (its.take k) xs) (hk : k < its.length) (hv : SlOf w g v its[k].2) :
    TlvCells w g (its.take (k + 1)) (xs ++ [.int .u8 its[k].1.toNat, v]) := by
  obtain ⟨h1, h2⟩ := h
  have hl : (its.take k).length = k := by simp; omega
  rw [hl] at h1
  refine ⟨by simp [h1]; omega, fun i hi => ?_⟩
  have hi' : i < k + 1 := by simp at hi; omega
  by_cases hik : i < k
  · obtain ⟨a, u, b, c⟩ := h2 i (by omega)
    simp only [List.getElem_take] at a c ⊢
    refine ⟨?_, u, ?_, c⟩
    · rw [List.getElem?_append_left (by omega)]; exact a
    · rw [List.getElem?_append_left (by omega)]; exact b
  · obtain rfl : i = k := by omega
    simp only [List.getElem_take]
    refine ⟨?_, v, ?_, hv⟩
    · rw [List.getElem?_append_right (by omega), h1]; simp
    · rw [List.getElem?_append_right (by omega), h1, show 2 * i + 1 - 2 * i = 1 by omega]; rfl

def lenV : Value → Nat
  | .slice _ n _ => n
  | _ => 0

set_option maxHeartbeats 1000000 in
theorem parse_any (g o c : Nat) (sa : Option Addr) (its : List (UInt8 × List UInt8)) (N : Nat) (w : World) (hN : N = (enc its).length) (hN2 : N ≤ 65535) (hcN : N ≤ c) (hc2 : c ≤ 1000000) (h255 : ∀ x ∈ its, x.2.length ≤ 255)
    (hsa : 0 < N → sa = some ⟨g, o, none⟩) (hc : ∀ j (hj : j < (enc its).length), w.cell? ⟨g, o + j, none⟩ = some (.int .u8 (enc its)[j].toNat)) (hg : g < w.heap.size) :
    Calls Ybaf.prog 14 #[.slice sa N c] w fun e w' => ∃ v xs, e = .returned (.tuple #[v, .nilIface]) ∧ w'.ownsRow w.heap.size 40 2 v its.length xs ∧ TlvCells w g its xs ∧ Below w.heap.size w w' := by
  obtain ⟨i0, hi, hz0, hz1, hz2⟩ := info_parts Ybaf.info40
  have HN : Hid (N = (enc its).length) := hN
  clear hN
  go_enter Ybaf.func14, Ybaf.ntmps14
  go_wp2
  go_loopw [0, 4] (fun sv tv wr => ∃ (k p R C : Nat) (sa : Option Addr) (v : Value) (xs : List Value), k ≤ its.length ∧ p = (enc (its.take k)).length ∧ R + p = N ∧ C + p = c ∧ sv = .slice sa R C ∧ tv = v ∧ (0 < R → sa = some ⟨g, o + p, none⟩) ∧
      wr.ownsRow w.heap.size 40 2 v k xs ∧ TlvCells w g (its.take k) xs ∧ Below w.heap.size w wr)
    (fun sv _ _ => lenV sv)
  case atStart => exact ⟨0, 0, N, c, sa, _, [], Nat.zero_le _, rfl, rfl, rfl, rfl, rfl, hsa, World.ownsRow_nil _ _ _ _, ⟨rfl, fun k h => by simp at h⟩, Below.refl _ _⟩
  case round =>
    obtain ⟨k, p, R, C, sa, tv, xs, hk, hp, hR, hC, rfl, hv, hA, hown, hcells, hnx⟩ := hrel
    have hNe := HN.out
    have hge := enc_ge its
    by_cases hlt : k < its.length
    · obtain ⟨q1, q2, q3, q4⟩ := enc_at its k p hlt hp
      have hpN : 2 + its[k].2.length ≤ R := by omega
      have h255k := h255 _ (List.getElem_mem hlt)
      have c0 := hc p (by omega)
      have c1 := hc (p + 1) (by omega)
      rw [List.getElem?_eq_getElem (by omega), Option.some.injEq] at q1 q2
      rw [q1] at c0
      rw [q2] at c1
      have el : its[k].2.length.toUInt8.toNat = its[k].2.length := by simp [Nat.toUInt8, UInt8.toNat_ofNat']; omega
      rw [el] at c1
      obtain rfl := hA (by omega)
      obtain ⟨L, hL⟩ : ∃ L, L = its[k].2.length := ⟨_, rfl⟩
      obtain ⟨T, hT⟩ : ∃ T, T = its[k].1 := ⟨_, rfl⟩
      rw [← hL] at c1 hpN h255k
      rw [← hT] at c0
      have d0 : wr.cell? ⟨g, o + p, none⟩ = some (.int .u8 T.toNat) := (hnx.cell (by exact hg)).trans c0
      have d1 : wr.cell? ⟨g, o + p + 1, none⟩ = some (.int .u8 L) := (hnx.cell (by exact hg)).trans c1
      have HP : Hid (p = (enc (its.take k)).length) := hp
      rw [← hv] at hown
      have HO : Hid (wr.ownsRow w.heap.size 40 2 u4 k xs) := hown
      have HC : Hid (TlvCells w g (its.take k) xs) := hcells
      have HQ3 : Hid (∀ (j : Nat) (hj : j < its[k].2.length), (enc its)[p + 2 + j]? = some its[k].2[j]) := q3
      have HL : Hid (L = its[k].2.length) := hL
      have HT : Hid (T = its[k].1) := hT
      have HH : Hid (∀ j (hj : j < (enc its).length), w.cell? ⟨g, o + j, none⟩ = some (.int .u8 (enc its)[j].toNat)) := hc
      have HR : Hid (R + p = N) := hR
      have HCc : Hid (C + p = c) := hC
      have hRC : R ≤ C := by omega
      have hRb : R ≤ 65535 := by omega
      have hCb : C ≤ 1000000 := by omega
      have hkb : k ≤ 65535 := by omega
      have hR0 : 0 < R := by omega
      have b1 : ¬ (R : Int) < 2 := by omega
      have b2 : ¬ (R : Int) < 2 + L := by omega
      have b3 : (2 : Int) + L ≤ C := by omega
      have b4 : (2 : Int) + L ≤ R := by omega
      obtain ⟨A, hA1, hA2⟩ := cutAt (C = 2) ⟨g, o + p, none⟩ ⟨g, o + p + 2, none⟩ (0 < L) (by omega)
      obtain ⟨A2, hB1, hB2⟩ := cutAt (C = 2 + L) ⟨g, o + p, none⟩ ⟨g, o + p + (2 + L), none⟩ (2 + L < R) (by omega)
      have hsl : ∀ w', (Instr.slice 22 (.slice (some ⟨g, o + p, none⟩) R C) (some (.int .i64 2)) (some (.int .i64 (2 + (L : Int)))) none).run Ybaf.prog w' = .ok (.slice (some A) L (C - 2)) w' := by
        intro w'
        have e1 : (2 + (L : Int)).toNat - 2 = L := by omega
        rw [run_slice_lh w' 22 (some ⟨g, o + p, none⟩) R C Ybaf.underlying22 .i64 .i64 2 (2 + (L : Int)) (by omega) (by omega) b3]
        simp [go_sem, sliced, e1, hA1]
      have hgr : g < wr.heap.size := Nat.lt_of_lt_of_le hg hnx.size
      have hwr := hnx.size
      clear hp hown hcells q1 q2 q3 q4 el c1 hc hL hT hA hsa h255 hR hC hNe hk hge hv
      go_upto_region 8 with fail
      go_region_held3 (fun w' => w'.cell? ⟨g, o + p, none⟩ = some (.int .u8 T.toNat)) (first | assumption | simp [go_sem, World.cell?_alloc_past, *])
        (first
          | (refine step_append_mine rfl (.tmp 37) (.tmp 45) 29 rfl w.heap.size 40 i0 (.agg #[.int .u8 0, .slice none 0 0]) 2 32 Ybaf.underlying29 hi hz0 hz1 hz2 rfl (by decide) u4 k xs rfl (by exact (HO.out.alloc _)) ⟨wr.heap.size, 0, none⟩ 1 1 [.int .u8 T.toNat, .slice (some A) L (C - 2)] rfl rfl (by exact cell_two_new wr _ _ 40) (by intro u hu; simp at hu; rcases hu with rfl | rfl <;> rfl) (by unfold maxLen; omega) (by omega) (by simp; omega) ?_; intro v3 w3 hown3 hgrow3; have hb3 : Below w.heap.size w w3 := Below.grown (by exact (hnx.alloc hwr _).drew) hgrow3 (by simp; omega) (own_ge HO.out); have d3 : w3.cell? ⟨g, o + p, none⟩ = some (.int .u8 T.toNat) := (hb3.cell (by exact hg)).trans c0))
      clear hsl hA1 d0 d1 d3
      have hsl2 : ∀ w', (Instr.slice 22 (.slice (some ⟨g, o + p, none⟩) R C) (some (.int .i64 (2 + (L : Int)))) none none).run Ybaf.prog w' = .ok (.slice (some A2) (R - (2 + L)) (C - (2 + L))) w' := by
        intro w'
        have e1 : (2 + (L : Int)).toNat = 2 + L := by omega
        rw [run_slice_l w' 22 (some ⟨g, o + p, none⟩) R C Ybaf.underlying22 .i64 (2 + (L : Int)) (by omega) b4]
        simp [go_sem, sliced, e1, hB1]
      clear hB1
      go_wp2
      go_roundw
      case rel =>
        have e1 := enc_take its k hlt
        have eL := HL.out
        have eT := HT.out
        have eP := HP.out
        have eR := HR.out
        have eC := HCc.out
        refine ⟨k + 1, p + (2 + L), R - (2 + L), C - (2 + L), some A2, v3, _, by omega, by rw [e1, ← eP, ← eL], by omega, by omega, rfl, rfl, fun h => ?_, hown3, ?_, hb3⟩
        · rw [hB2.out (by omega), Nat.add_assoc]
        · rw [eT]
          refine HC.out.snoc hlt ⟨some A, C - 2, by rw [← eL], fun j hj => ?_⟩
          have q := HQ3.out j hj
          refine ⟨o + p + 2, by rw [hA2.out (by omega)], ?_⟩
          obtain ⟨hq1, hq2⟩ := List.getElem?_eq_some_iff.1 q
          have := HH.out (p + 2 + j) hq1
          rw [hq2] at this
          rw [show o + p + 2 + j = o + (p + 2 + j) by omega]
          exact this
      case measure => simp [lenV]; omega
    · have hkm : k = its.length := by omega
      subst hkm
      rw [List.take_length] at hp hcells
      have hR0 : R = 0 := by omega
      subst hR0
      clear hc hsa h255 hA hp hR hC hNe hge hk hlt
      subst hv
      go_wp2
      go_ret2
      exact ⟨_, _, rfl, hown, hcells, hnx⟩
end Go.Proofs.YbulkbaliFmt
