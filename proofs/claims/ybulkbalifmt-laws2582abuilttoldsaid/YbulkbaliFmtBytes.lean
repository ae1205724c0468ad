import Derived.Test.YbulkbaliFmtDelay
import Derived.ProofKit
namespace Go.Proofs.YbulkbaliFmt
open Go.RowKit

/-- The objects, their values cut to 255 bytes. -/
def clamp (its : List (UInt8 × List UInt8)) : List (UInt8 × List UInt8) := its.map fun x => (x.1, x.2.take 255)
theorem clamp_len (its : List (UInt8 × List UInt8)) : (clamp its).length = its.length := by simp [clamp]
theorem clamp_at (its : List (UInt8 × List UInt8)) (k : Nat) (h : k < its.length) : (clamp its)[k]'(by rw [clamp_len]; exact h) = (its[k].1, its[k].2.take 255) := by simp [clamp]

/-- What the walk is told of the objects that came in. -/
def TlvIn (w : World) (ta : Option Addr) (its : List (UInt8 × List UInt8)) : Prop :=
  ∀ k (h : k < its.length), ∃ tb toff, ta = some ⟨tb, toff, none⟩ ∧ tb < w.heap.size ∧ w.cell? ⟨tb, toff + k * 2, none⟩ = some (.int .u8 its[k].1.toNat) ∧ ∃ A c, its[k].2.length ≤ c ∧ c ≤ 9223372036854775807 ∧ (A = none → c = 0) ∧ w.cell? ⟨tb, toff + k * 2 + 1, none⟩ = some (.slice A its[k].2.length c) ∧ Holds8 w A its[k].2

/-- The first eight bytes; the next four; the j first bytes of a word. -/
def hdr8 (x0 x1 x4 x5 pad n : Nat) : List Nat := [x0, x1, n / 256, n % 256, x4, x5, pad / 256, pad % 256]
def hdr4 (wd : Nat) : List Nat := [wd / 16777216, wd / 65536 % 256, wd / 256 % 256, wd % 256]
def wordB (v j : Nat) : List Nat := (List.range j).map fun i => v / 2 ^ (56 - 8 * i) % 256
def wordsB (t : Nat → Nat) (k : Nat) : List Nat := (List.range k).flatMap fun i => wordB (t i) 8
theorem wordB_succ (v j : Nat) : wordB v (j + 1) = wordB v j ++ [v / 2 ^ (56 - 8 * j) % 256] := by simp [wordB, List.range_succ]
theorem wordsB_succ (t : Nat → Nat) (k : Nat) : wordsB t (k + 1) = wordsB t k ++ wordB (t k) 8 := by simp [wordsB, List.range_succ]
/-- Bytes, as cells. -/
def bytesV (l : List Nat) : List Value := l.map fun (n : Nat) => .int .u8 (n : Int)
theorem bytesV_append (a b : List Nat) : bytesV (a ++ b) = bytesV a ++ bytesV b := by simp [bytesV]
theorem bytesV_one (l : List Nat) : ∀ u ∈ bytesV l, u.oneCell' = true := by
  intro u hu
  simp [bytesV] at hu
  obtain ⟨a, _, rfl⟩ := hu
  rfl
theorem cells_new (w : World) (vs : List Value) (t : TypeId) : ∀ j u, vs[j]? = some u → (w.alloc (.cells vs.toArray t)).cell? ((⟨w.heap.size, 0, none⟩ : Addr).add j) = some u := by
  intro j u hj
  rw [Go.WideShapes.add_plain, Nat.zero_add]
  have h := heap_alloc_new w (.cells vs.toArray t)
  have e : (w.alloc (.cells vs.toArray t)).cell? ⟨w.heap.size, j, none⟩ = vs[j]? := by
    unfold World.cell?
    rw [h]
    simp
  rw [e, hj]

theorem bytesV_snoc (l : List Nat) (n : Nat) : bytesV (l ++ [n]) = bytesV l ++ [.int .u8 (n : Int)] := by simp [bytesV]

/-- The block's bytes. -/
def encN (l : List (UInt8 × List UInt8)) : List Nat := (enc l).map UInt8.toNat
theorem encN_length (l : List (UInt8 × List UInt8)) : (encN l).length = (enc l).length := by simp [encN]
theorem encN_take (its : List (UInt8 × List UInt8)) (i : Nat) (h : i < its.length) (hl : its[i].2.length ≤ 255) : encN (its.take (i + 1)) = encN (its.take i) ++ [its[i].1.toNat, its[i].2.length] ++ its[i].2.map UInt8.toNat := by
  rw [List.take_succ_eq_append_getElem h]
  unfold encN
  rw [enc_append, List.map_append]
  simp [enc, Nat.toUInt8, UInt8.toNat_ofNat']
  omega
theorem src_cells {w wr : World} {A : Option Addr} {bs : List UInt8} (n : Nat) (hh : Holds8 w A bs) (he : ∀ p v, w.cell? p = some v → wr.cell? p = some v) :
    ∀ ad, A = some ad → ∀ j u, (bytesV ((bs.take n).map UInt8.toNat))[j]? = some u → wr.cell? (ad.add j) = some u := by
  intro ad hA j u hj
  simp only [bytesV, List.getElem?_map, Option.map_eq_some_iff] at hj
  obtain ⟨_, ⟨x, hx, rfl⟩, rfl⟩ := hj
  obtain ⟨hx1, hx2⟩ := List.getElem?_eq_some_iff.1 hx
  simp at hx1 hx2
  obtain ⟨b, off, e, hc⟩ := hh j (by omega)
  rw [hA] at e
  obtain rfl := Option.some.inj e
  rw [Go.WideShapes.add_plain]
  rw [hx2] at hc
  exact he _ _ hc

theorem Ybaf.info5 : (Ybaf.prog.info? 5).map (fun i => (i.zero, i.size, i.bytes)) = some (some (.int .u8 0), 1, 1) := by kernel_rfl


theorem be2 (n : Nat) (h : n < 65536) : Lib.beNat [(n / 256).toUInt8, (n % 256).toUInt8] = n := by
  simp [Lib.beNat, Lib.beFrom, Nat.toUInt8, UInt8.toNat_ofNat']; omega
theorem be4 (n : Nat) (h : n < 4294967296) : Lib.beNat [(n / 16777216).toUInt8, (n / 65536 % 256).toUInt8, (n / 256 % 256).toUInt8, (n % 256).toUInt8] = n := by
  simp [Lib.beNat, Lib.beFrom, Nat.toUInt8, UInt8.toNat_ofNat']; omega
theorem be8 (n : Nat) (h : n < 18446744073709551616) : Lib.beNat [(n / 72057594037927936 % 256).toUInt8, (n / 281474976710656 % 256).toUInt8, (n / 1099511627776 % 256).toUInt8, (n / 4294967296 % 256).toUInt8, (n / 16777216 % 256).toUInt8, (n / 65536 % 256).toUInt8, (n / 256 % 256).toUInt8, (n / 1 % 256).toUInt8] = n := by
  simp [Lib.beNat, Lib.beFrom, Nat.toUInt8, UInt8.toNat_ofNat']; omega

/-- The whole message's bytes. -/
def allB (x0 x1 x4 x5 pad wd S : Nat) (t : Nat → Nat) (its : List (UInt8 × List UInt8)) (ex : List UInt8) : List UInt8 :=
  (hdr8 x0 x1 x4 x5 pad (44 + S) ++ hdr4 wd ++ wordsB t 4).map Nat.toUInt8 ++ (enc its ++ ex)

theorem hd44 (x0 x1 x4 x5 pad wd n : Nat) (t : Nat → Nat) : (hdr8 x0 x1 x4 x5 pad n ++ hdr4 wd ++ wordsB t 4).length = 44 := rfl

theorem delay_row (B x0 x1 x4 x5 pad wd S el : Nat) (t : Nat → Nat) (its : List (UInt8 × List UInt8)) (ex : List UInt8) (w : World)
    (h0 : x0 < 256) (h1 : x1 < 256) (h4 : x4 < 256) (h5 : x5 < 256) (hp : pad < 65536) (hw : wd < 4294967296) (ht : ∀ k, t k < 18446744073709551616)
    (hS : S = (enc its).length) (h255 : ∀ x ∈ its, x.2.length ≤ 255) (hT : 44 + S ≤ 65535) (hel : el = ex.length) (he : el ≤ 1024)
    (ho : w.ownsRow B 5 1 (.slice (some ⟨B, 0, none⟩) (44 + S + el) (44 + S + el)) (44 + S + el) (bytesV (hdr8 x0 x1 x4 x5 pad (44 + S) ++ hdr4 wd ++ wordsB t 4 ++ encN its) ++ bytesV (ex.map UInt8.toNat))) :
    Calls Ybaf.prog 5 #[.slice (some ⟨B, 0, none⟩) (44 + S + el) (44 + S + el)] w fun e w' => ∃ v xs, e = .returned (.tuple #[.agg (dm x0 x1 x4 x5 wd t v), .nilIface]) ∧ w'.ownsRow w.heap.size 40 2 v its.length xs ∧ TlvCells w B its xs ∧ Below w.heap.size w w' := by
  have hlt : ∀ n ∈ hdr8 x0 x1 x4 x5 pad (44 + S) ++ hdr4 wd ++ wordsB t 4, n < 256 := by
    intro n hn
    simp only [List.mem_append] at hn
    rcases hn with (hn | hn) | hn
    · simp [hdr8] at hn; omega
    · simp [hdr4] at hn; omega
    · simp only [wordsB, wordB, List.mem_flatMap, List.mem_map] at hn
      obtain ⟨_, _, _, _, rfl⟩ := hn
      exact Nat.mod_lt _ (by omega)
  have hlen : (allB x0 x1 x4 x5 pad wd S t its ex).length = 44 + S + el := by
    unfold allB
    rw [List.length_append, List.length_map, hd44, List.length_append, hS, hel]; omega
  have hbv : bytesV (hdr8 x0 x1 x4 x5 pad (44 + S) ++ hdr4 wd ++ wordsB t 4 ++ encN its) ++ bytesV (ex.map UInt8.toNat) = (allB x0 x1 x4 x5 pad wd S t its ex).map (fun b => Value.int .u8 b.toNat) := by
    unfold allB bytesV encN
    simp only [List.map_append, List.map_map, List.append_assoc]
    have hm : ∀ (l : List Nat), (∀ n ∈ l, n < 256) → l.map (fun (n : Nat) => Value.int .u8 (n : Int)) = l.map ((fun b : UInt8 => Value.int .u8 b.toNat) ∘ Nat.toUInt8) := by
      intro l hl
      apply List.map_congr_left
      intro n hn
      have := hl n hn
      simp [Nat.toUInt8, UInt8.toNat_ofNat', Nat.mod_eq_of_lt this]
    rw [hm _ (fun n hn => hlt n (by simp [hn])), hm (hdr4 wd) (fun n hn => hlt n (by simp [hn])), hm (wordsB t 4) (fun n hn => hlt n (by simp [hn]))]
    rfl
  rw [hbv] at ho
  have hc : ∀ j (hj : j < (allB x0 x1 x4 x5 pad wd S t its ex).length), w.cell? ⟨B, j, none⟩ = some (.int .u8 (allB x0 x1 x4 x5 pad wd S t its ex)[j].toNat) := by
    intro j hj
    rw [ho.cellAt j (by rw [← hlen, Nat.mul_one]; exact hj)]
    simp [hj]
  have hg : B < w.heap.size := (ho.lt B rfl).2
  have hf : ∀ (j n : Nat), (hdr8 x0 x1 x4 x5 pad (44 + S) ++ hdr4 wd ++ wordsB t 4)[j]? = some n → n < 256 → w.cell? ⟨B, j, none⟩ = some (.int .u8 n) := by
    intro j n hj hn
    have hjl := (List.getElem?_eq_some_iff.1 hj).1
    have e : (allB x0 x1 x4 x5 pad wd S t its ex)[j]? = some n.toUInt8 := by
      unfold allB
      rw [List.getElem?_append_left (by simpa using hjl), List.getElem?_map, hj]; rfl
    obtain ⟨q1, q2⟩ := List.getElem?_eq_some_iff.1 e
    rw [hc j q1, q2]
    simp [Nat.toUInt8, UInt8.toNat_ofNat', Nat.mod_eq_of_lt hn]
  refine delay_any B (44 + S + el) (44 + S + el) (44 + S) wd (allB x0 x1 x4 x5 pad wd S t its ex) x0 x1 x4 x5 its t w hlen (by omega) (by omega) (Nat.le_refl _) (by omega) hT hc hg (hf 0 x0 rfl h0) (hf 1 x1 rfl h1) (hf 4 x4 rfl h4) (hf 5 x5 rfl h5) (be2 (44 + S) (by omega)) (be4 wd hw) (by omega) h255 (fun j hj => ?_) (fun k hk => ?_)
  · unfold allB
    rw [List.getElem?_append_right (by rw [List.length_map, hd44]; omega), List.length_map, hd44, Nat.add_sub_cancel_left, List.getElem?_append_left hj]
    simp
  · match k, hk with
    | 0, _ => exact be8 (t 0) (ht 0)
    | 1, _ => exact be8 (t 1) (ht 1)
    | 2, _ => exact be8 (t 2) (ht 2)
    | 3, _ => exact be8 (t 3) (ht 3)
end Go.Proofs.YbulkbaliFmt
