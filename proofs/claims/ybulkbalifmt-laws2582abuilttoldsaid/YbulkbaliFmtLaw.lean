import Derived.Test.YbulkbaliFmtBytes
import Derived.ProofKit
namespace Go.Proofs.YbulkbaliFmt
open Go.RowKit

theorem own_pos {w : World} {base e size n c : Nat} {A : Option Addr} {xs : List Value} (h : w.ownsRow base e size (.slice A n c) n xs) (hn : 0 < n) : ∃ g, A = some ⟨g, 0, none⟩ := by
  rcases h.2 with ⟨_, h0⟩ | ⟨g, cap, cur, hv, _⟩
  · omega
  · exact ⟨g, by simpa using (by injection hv)⟩

theorem eq_any (A' A : Option Addr) (L ca cb : Nat) (bs : List UInt8) (w : World) (hn : bs.length = L) (hm : L ≤ 1000000) (h1 : Holds8 w A' bs) (h2 : Holds8 w A bs) :
    Calls Ybaf.prog 7 #[.slice A' L ca, .slice A L cb] w fun e w' => e = .returned (.bool true) ∧ ∃ q, w' = w.drewN q := by
  by_cases h0 : L = 0
  · subst h0; exact eq_zero A' A ca cb w
  · obtain ⟨b1, o1, rfl, g1⟩ := h1.at (by omega)
    obtain ⟨b2, o2, rfl, g2⟩ := h2.at (by omega)
    exact eq_pos b1 o1 b2 o2 L ca cb bs w hn hm g1 g2

set_option maxRecDepth 100000 in
set_option maxHeartbeats 1000000 in
theorem built_any (x0 x1 x4 x5 pad wd : Nat) (t : Nat → Nat) (ta : Option Addr) (tcap : Nat) (its : List (UInt8 × List UInt8)) (ea : Option Addr) (ecap : Nat) (ex : List UInt8) (w : World)
    (h0 : x0 < 256) (h1 : x1 < 256) (h4 : x4 < 256) (h5 : x5 < 256) (hp : pad < 65536) (hw : wd < 4294967296) (ht : ∀ k, t k < 18446744073709551616)
    (hm : its.length ≤ 1024) (he : ex.length ≤ 1024) (hec : ex.length ≤ ecap) (hin : TlvIn w ta its) (hex : Holds8 w ea ex) (hen : ea = none → ecap = 0) :
    Calls Ybaf.prog 4 #[.int .u8 x0, .int .u8 x1, .int .u8 x4, .int .u8 x5, .int .u16 pad, .int .u32 wd, .agg #[.int .u64 (t 0), .int .u64 (t 1), .int .u64 (t 2), .int .u64 (t 3)], .slice ta its.length tcap, .slice ea ex.length ecap] w fun e w' => e = .returned (.bool true) ∧ Below w.heap.size w w' := by
  obtain ⟨m, hme⟩ : ∃ m, m = its.length := ⟨_, rfl⟩
  obtain ⟨el, hel⟩ : ∃ el, el = ex.length := ⟨_, rfl⟩
  rw [← hme] at hm ⊢
  rw [← hel] at he hec ⊢
  have HM : Hid (m = its.length) := hme
  have HE : Hid (el = ex.length) := hel
  have HIN : Hid (TlvIn w ta its) := hin
  have HEX : Hid (Holds8 w ea ex) := hex
  have HENO : Hid (ea = none → el = 0 ∧ ecap = 0) := by intro h; have := hen h; omega
  have q1 : ¬ (1024 : Int) < m := by omega
  have q2 : ¬ (1024 : Int) < el := by omega
  have q2' : decide ((1024 : Int) < el) = false := by simp; omega
  have q1' : decide ((1024 : Int) < m) = false := by simp; omega
  clear hme hel hin hex hen
  go_enter Ybaf.func4, Ybaf.ntmps4
  go_wp2
  go_loop [19, 20] (fun tv iv => ∃ k S : Nat, k ≤ m ∧ iv = .int .i64 k ∧ S = (enc ((clamp its).take k)).length ∧ S ≤ 257 * k ∧ tv = .int .i64 ((44 + S : Nat) : Int)) (fun _ iv => m - (intOf iv).toNat)
  case atStart => exact ⟨0, 0, Nat.zero_le _, rfl, rfl, by omega, rfl⟩
  case round =>
    obtain ⟨k, S, hk, rfl, hS, hSb, rfl⟩ := hrel
    have HS : Hid (S = (enc ((clamp its).take k)).length) := hS
    clear hS
    by_cases hlt : k < m
    · obtain ⟨tb, toff, rfl, htb, c1, A, c, hc, hc2, _, c2, hb⟩ := HIN.out k (by have := HM.out; omega)
      have ek := enc_take (clamp its) k (by rw [clamp_len]; have := HM.out; omega)
      rw [clamp_at its k (by have := HM.out; omega), List.length_take, ← HS.out] at ek
      obtain ⟨L, hL⟩ : ∃ L, L = (its[k]'(by have := HM.out; omega)).2.length := ⟨_, rfl⟩
      rw [← hL] at c2 ek hc
      have HEK : Hid ((enc ((clamp its).take (k + 1))).length = S + (2 + min 255 L)) := ek
      clear ek hL hb
      have d2 : ∀ o : Obj, (w.alloc o).cell? ⟨tb, toff + k * 2 + 1, none⟩ = some (.slice A L c) := fun o => (World.cell?_alloc_lt _ _ _ (by exact htb)).trans c2
      have hlt' : (k : Int) < m := by omega
      by_cases h255 : 255 < L
      · have hg : (255 : Int) < L := by omega
        go_wp2
        go_round
        case rel => exact ⟨k + 1, _, by omega, by go_num, rfl, by rw [HEK.out]; omega, by rw [HEK.out, Nat.min_eq_left (by omega)]; go_num⟩
        case measure => simp [intOf]; omega
      · have hg : ¬ (255 : Int) < L := by omega
        go_wp2
        go_round
        case rel => exact ⟨k + 1, _, by omega, by go_num, rfl, by rw [HEK.out]; omega, by rw [HEK.out, Nat.min_eq_right (by omega)]; go_num⟩
        case measure => simp [intOf]; omega
    · obtain rfl : k = m := by omega
      clear hlt
      by_cases hT : 65535 < 44 + S
      · have hT' : (65535 : Int) < 44 + S := by omega
        go_wp2
        go_ret
        exact ⟨rfl, (Below.refl _ _).alloc (Nat.le_refl _) _⟩
      · have hT' : ¬ (65535 : Int) < 44 + S := by omega
        obtain ⟨i5, hi, hz0, hz1, hz2⟩ := info_parts Ybaf.info5
        go_upto_region 14 with (at_make; refine wpList_make_own _ rfl _ _ 22 rfl (w.heap.size + 1) 5 i5 (.int .u8 0) 1 Ybaf.underlying22 hi hz0 hz1 _ _ _ (44 + S + el) rfl rfl (by omega) (by rw [hz2]; omega) (by unfold maxLen; omega) (by simp) ?_; intro w1 hown1 hg1)
        have hb1 : Below (w.heap.size + 1) (w.alloc (.cells #[.int .u64 (t 0), .int .u64 (t 1), .int .u64 (t 2), .int .u64 (t 3)] 44)) w1 := (Below.refl _ _).grown hg1 (by simp) (by simp)
        rw [World.size_alloc] at hown1
        clear hg1
        go_upto_region 15 with (at_builtin; refine wpList_append_fits _ rfl (.tmp 66) (.tmp 81) 22 rfl (w.heap.size + 1) 5 i5 1 Ybaf.underlying22 hi hz1 (w.heap.size + 1) 0 (44 + S + el) [] rfl (by exact hown1.alloc _) ⟨w1.heap.size, 0, none⟩ 8 8 [.int .u8 x0, .int .u8 x1, .int .u8 ((44 + (S : Int)) / 256), .int .u8 ((44 + (S : Int)) % 256), .int .u8 x4, .int .u8 x5, .int .u8 ((pad : Int) / 256), .int .u8 ((pad : Int) % 256)] rfl rfl (by exact cells_new w1 [_, _, _, _, _, _, _, _] 5) (by intro u hu; simp at hu; rcases hu with rfl | rfl | rfl | rfl | rfl | rfl | rfl | rfl <;> rfl) (by omega) ?_; intro w2 hown2 hg2)
        have o2 : w2.ownsRow (w.heap.size + 1) 5 1 (.slice (some ⟨w.heap.size + 1, 0, none⟩) 8 (44 + S + el)) 8 (bytesV (hdr8 x0 x1 x4 x5 pad (44 + S))) := by
          have e : bytesV (hdr8 x0 x1 x4 x5 pad (44 + S)) = [.int .u8 x0, .int .u8 x1, .int .u8 ((44 + (S : Int)) / 256), .int .u8 ((44 + (S : Int)) % 256), .int .u8 x4, .int .u8 x5, .int .u8 ((pad : Int) / 256), .int .u8 ((pad : Int) % 256)] := by simp [bytesV, hdr8]
          rw [e]; exact hown2
        have hb2 : Below (w.heap.size + 1) (w.alloc (.cells #[.int .u64 (t 0), .int .u64 (t 1), .int .u64 (t 2), .int .u64 (t 3)] 44)) w2 := (hb1.alloc (by simpa using hb1.size) _).grown hg2 (by have := hb1.size; simp at this ⊢; omega) (by simp)
        clear hown1 hown2 hg2 hb1
        go_upto_region 16 with (at_builtin; refine wpList_append_fits _ rfl (.tmp 83) (.tmp 95) 22 rfl (w.heap.size + 1) 5 i5 1 Ybaf.underlying22 hi hz1 (w.heap.size + 1) 8 (44 + S + el) _ rfl (by exact o2.alloc _) ⟨w2.heap.size, 0, none⟩ 4 4 [.int .u8 ((wd : Int) / 16777216), .int .u8 ((wd : Int) / 65536 % 256), .int .u8 ((wd : Int) / 256 % 256), .int .u8 ((wd : Int) % 256)] rfl rfl (by exact cells_new w2 [_, _, _, _] 5) (by intro u hu; simp at hu; rcases hu with rfl | rfl | rfl | rfl <;> rfl) (by omega) ?_; intro w3 hown3 hg3)
        have o3 : w3.ownsRow (w.heap.size + 1) 5 1 (.slice (some ⟨w.heap.size + 1, 0, none⟩) 12 (44 + S + el)) 12 (bytesV (hdr8 x0 x1 x4 x5 pad (44 + S) ++ hdr4 wd)) := by
          have e : bytesV (hdr4 wd) = [.int .u8 ((wd : Int) / 16777216), .int .u8 ((wd : Int) / 65536 % 256), .int .u8 ((wd : Int) / 256 % 256), .int .u8 ((wd : Int) % 256)] := by simp [bytesV, hdr4]
          rw [bytesV_append, e]; exact hown3
        have hb3 : Below (w.heap.size + 1) (w.alloc (.cells #[.int .u64 (t 0), .int .u64 (t 1), .int .u64 (t 2), .int .u64 (t 3)] 44)) w3 := (hb2.alloc (by simpa using hb2.size) _).grown hg3 (by have := hb2.size; simp at this ⊢; omega) (by simp)
        clear hown3 hg3 hb2 o2
        have HH : (hdr8 x0 x1 x4 x5 pad (44 + S) ++ hdr4 wd).length = 12 := rfl
        obtain ⟨Hd, hHd⟩ : ∃ Hd, Hd = hdr8 x0 x1 x4 x5 pad (44 + S) ++ hdr4 wd := ⟨_, rfl⟩
        rw [← hHd] at o3 HH
        have HHd : Hid (Hd = hdr8 x0 x1 x4 x5 pad (44 + S) ++ hdr4 wd) := hHd
        have hts : ∀ j, j < 4 → (w.alloc (.cells #[.int .u64 (t 0), .int .u64 (t 1), .int .u64 (t 2), .int .u64 (t 3)] 44)).cell? ⟨w.heap.size, j, none⟩ = some (.int .u64 (t j)) := by
          intro j hj
          match j, hj with
          | 0, _ => simp
          | 1, _ => simp
          | 2, _ => simp
          | 3, _ => simp
        have HTS : Hid (∀ j, j < 4 → (w.alloc (.cells #[.int .u64 (t 0), .int .u64 (t 1), .int .u64 (t 2), .int .u64 (t 3)] 44)).cell? ⟨w.heap.size, j, none⟩ = some (.int .u64 (t j))) := hts
        obtain ⟨W0, hW0⟩ : ∃ W0, W0 = w.alloc (.cells #[.int .u64 (t 0), .int .u64 (t 1), .int .u64 (t 2), .int .u64 (t 3)] 44) := ⟨_, rfl⟩
        rw [← hW0] at hb3 HTS
        have HW0 : Hid (W0 = w.alloc (.cells #[.int .u64 (t 0), .int .u64 (t 1), .int .u64 (t 2), .int .u64 (t 3)] 44)) := hW0
        have hW0a : w.heap.size + 1 ≤ W0.heap.size := by rw [hW0]; simp
        have HWC : Hid (∀ p v, w.cell? p = some v → W0.cell? p = some v) := by intro p v h; rw [hW0]; exact (World.cell?_alloc_lt _ _ _ (World.block_lt_of_cell? _ _ h)).trans h
        clear hHd hts hW0
        go_wp2
        go_loopw [22, 23] (fun bv iv wr => ∃ j : Nat, j ≤ 4 ∧ iv = .int .i64 j ∧ bv = .slice (some ⟨w.heap.size + 1, 0, none⟩) (12 + 8 * j) (44 + S + el) ∧ wr.ownsRow (w.heap.size + 1) 5 1 (.slice (some ⟨w.heap.size + 1, 0, none⟩) (12 + 8 * j) (44 + S + el)) (12 + 8 * j) (bytesV (Hd ++ wordsB t j)) ∧ Below (w.heap.size + 1) W0 wr) (fun _ iv _ => 4 - (intOf iv).toNat)
        case atStart => exact ⟨0, by omega, rfl, rfl, by simpa [wordsB] using o3, hb3⟩
        case round =>
          clear o3 hb3
          obtain ⟨j, hj, rfl, rfl, ho, hb⟩ := hrel
          by_cases hlt : j < 4
          · have hlt' : (j : Int) < 4 := by omega
            have hcj : wr.cell? ⟨w.heap.size, j, none⟩ = some (.int .u64 (t j)) := (hb.cell (by simp)).trans (HTS.out j hlt)
            have htj := ht j
            generalize htv : t j = tv at *
            have HTV : Hid (t j = tv) := htv
            clear htv
            go_wp2
            go_loopw [22, 25] (fun bv sv wr => ∃ i : Nat, i ≤ 8 ∧ sv = .int .i64 (56 - 8 * (i : Int)) ∧ bv = .slice (some ⟨w.heap.size + 1, 0, none⟩) (12 + 8 * j + i) (44 + S + el) ∧ wr.ownsRow (w.heap.size + 1) 5 1 (.slice (some ⟨w.heap.size + 1, 0, none⟩) (12 + 8 * j + i) (44 + S + el)) (12 + 8 * j + i) (bytesV (Hd ++ wordsB t j ++ wordB tv i)) ∧ Below (w.heap.size + 1) W0 wr) (fun _ sv _ => (intOf sv + 8).toNat)
            case atStart => exact ⟨0, by omega, rfl, rfl, by simpa [wordB] using ho, hb⟩
            case round =>
              clear ho hb hcj
              obtain ⟨i, hi8, rfl, rfl, ho, hb⟩ := hrel
              by_cases hlt8 : i < 8
              · have g1 : (0 : Int) ≤ 56 - 8 * (i : Int) := by omega
                have g2 : (56 : Int) - 8 * (i : Int) ≤ 56 := by omega
                go_wp2_with (at_builtin; refine wpList_append_fits _ rfl (.tmp 108) (.tmp 114) 22 rfl (w.heap.size + 1) 5 i5 1 Ybaf.underlying22 hi hz1 (w.heap.size + 1) (12 + 8 * j + i) (44 + S + el) _ rfl (by exact ho.alloc _) ⟨wr.heap.size, 0, none⟩ 1 1 [.int .u8 ((tv : Int) / 2 ^ (56 - 8 * i) % 256)] rfl rfl (by exact cells_new wr [_] 5) (by intro u hu; simp at hu; subst hu; rfl) (by omega) ?_; intro w4 hown4 hg4)
                go_roundw
                case rel =>
                  refine ⟨i + 1, by omega, by go_num, rfl, ?_, (hb.alloc (Nat.le_trans hW0a hb.size) _).grown hg4 (by have := hb.size; simp; omega) (by simp)⟩
                  have e : bytesV (Hd ++ wordsB t j ++ wordB tv (i + 1)) = bytesV (Hd ++ wordsB t j ++ wordB tv i) ++ [.int .u8 ((tv : Int) / 2 ^ (56 - 8 * i) % 256)] := by
                    rw [wordB_succ, ← List.append_assoc, bytesV_snoc]; simp
                  rw [e]; exact hown4
                case measure => simp [intOf]; omega
              · obtain rfl : i = 8 := by omega
                clear hlt8
                go_wp2
                go_roundw
                case rel =>
                  refine ⟨j + 1, by omega, by go_num, rfl, ?_, hb⟩
                  rw [wordsB_succ, HTV.out, ← List.append_assoc]
                  exact ho
                case measure => simp [intOf]; omega
          · obtain rfl : j = 4 := by omega
            clear hlt hj
            go_wp2
            obtain ⟨Pr, hPr⟩ : ∃ Pr, Pr = Hd ++ wordsB t 4 := ⟨_, rfl⟩
            rw [← hPr] at ho
            have HPr : Hid (Pr = Hd ++ wordsB t 4) := hPr
            have HSS : Hid (∀ i, i ≤ k → (enc ((clamp its).take i)).length ≤ S) := by
              intro i hik
              have e : (clamp its).take k = (clamp its).take i ++ ((clamp its).take k).drop i := by
                rw [show (clamp its).take i = ((clamp its).take k).take i by rw [List.take_take, Nat.min_eq_left hik], List.take_append_drop]
              rw [HS.out, e, enc_append, List.length_append]; omega
            clear hPr
            go_loopw [22, 26] (fun bv iv wr => ∃ i s : Nat, i ≤ k ∧ iv = .int .i64 i ∧ s = (enc ((clamp its).take i)).length ∧ bv = .slice (some ⟨w.heap.size + 1, 0, none⟩) (44 + s) (44 + S + el) ∧ wr.ownsRow (w.heap.size + 1) 5 1 (.slice (some ⟨w.heap.size + 1, 0, none⟩) (44 + s) (44 + S + el)) (44 + s) (bytesV (Pr ++ encN ((clamp its).take i))) ∧ Below (w.heap.size + 1) W0 wr) (fun _ iv _ => k - (intOf iv).toNat)
            case atStart => exact ⟨0, 0, by omega, rfl, rfl, rfl, by simpa [encN, enc] using ho, hb⟩
            case round =>
              clear ho hb
              obtain ⟨i, s, hik, rfl, hs, rfl, ho, hb⟩ := hrel
              by_cases hlt : i < k
              · have hkl := HM.out
                obtain ⟨tb, toff, rfl, htb, c1, A, c, hc, hc2, hcn, c2, hh⟩ := HIN.out i (by omega)
                have hcl : i < (clamp its).length := by rw [clamp_len]; omega
                have ek := enc_take (clamp its) i hcl
                have en := encN_take (clamp its) i hcl (by rw [clamp_at its i (by omega)]; simp; omega)
                have hS1 := HSS.out (i + 1) (by omega)
                rw [clamp_at its i (by omega)] at ek en
                simp only [List.length_take] at ek en
                rw [← hs] at ek
                rw [ek] at hS1
                obtain ⟨T, hTe⟩ : ∃ T, T = (its[i]'(by omega)).1 := ⟨_, rfl⟩
                obtain ⟨bs, hbs⟩ : ∃ bs, bs = (its[i]'(by omega)).2 := ⟨_, rfl⟩
                rw [← hbs] at ek en hS1 c2 hc hh
                rw [← hTe] at c1 en
                obtain ⟨L, hL⟩ : ∃ L, L = bs.length := ⟨_, rfl⟩
                rw [← hL] at ek en hS1 c2 hc
                have he : ∀ p v, w.cell? p = some v → wr.cell? p = some v := fun p v h => (hb.cell (by have := World.block_lt_of_cell? _ _ h; omega)).trans (HWC.out p v h)
                have d1 := he _ _ c1
                have d2 := he _ _ c2
                have HEK : Hid ((enc ((clamp its).take (i + 1))).length = s + (2 + min 255 L)) := ek
                have HEN : Hid (encN ((clamp its).take (i + 1)) = encN ((clamp its).take i) ++ [T.toNat, min 255 L] ++ (bs.take 255).map UInt8.toNat) := en
                have HL : Hid (L = bs.length) := hL
                have HHh : Hid (Holds8 w A bs) := hh
                have HCN : Hid (A = none → c = 0) := hcn
                have hlt' : (i : Int) < k := by omega
                have hsS : s + (2 + min 255 L) ≤ S := hS1
                clear ek en hS1 hTe hbs hL hh hcn hkl c1 c2 he hs hcl
                by_cases h255 : 255 < L
                · have hgv : (255 : Int) < L := by omega
                  obtain ⟨sb, so, rfl, _⟩ := HHh.out.at (by have := HL.out; omega)
                  have b255 : (255 : Int) ≤ c := by omega
                  have hc0 : ¬ c = 0 := by omega
                  go_upto_region 31 with (at_builtin; refine wpList_append_fits _ rfl (.tmp 132) (.tmp 141) 22 rfl (w.heap.size + 1) 5 i5 1 Ybaf.underlying22 hi hz1 (w.heap.size + 1) (44 + s) (44 + S + el) _ rfl (by exact ho.alloc _) ⟨wr.heap.size, 0, none⟩ 2 2 [.int .u8 T.toNat, .int .u8 255] rfl rfl (by exact cells_new wr [_, _] 5) (by intro u hu; simp at hu; rcases hu with rfl | rfl <;> rfl) (by omega) ?_; intro w4 hown4 hg4)
                  have hb4 : Below (w.heap.size + 1) W0 w4 := (hb.alloc (Nat.le_trans hW0a hb.size) _).grown hg4 (by have := hb.size; simp; omega) (by simp)
                  have he4 : ∀ p v, w.cell? p = some v → w4.cell? p = some v := fun p v h => (hb4.cell (by have := World.block_lt_of_cell? _ _ h; omega)).trans (HWC.out p v h)
                  have HSC : Hid (∀ ad : Addr, (some ⟨sb, so, none⟩ : Option Addr) = some ad → ∀ j u, (bytesV ((bs.take 255).map UInt8.toNat))[j]? = some u → w4.cell? (ad.add j) = some u) := src_cells 255 HHh.out he4
                  clear he4 hg4 ho
                  go_wp2_with (at_builtin; refine wpList_append_fits_any _ rfl (.tmp 143) (.tmp 144) 22 rfl (w.heap.size + 1) 5 i5 1 Ybaf.underlying22 hi hz1 (w.heap.size + 1) (44 + s + 2) (44 + S + el) _ rfl (by exact hown4) (some ⟨sb, so, none⟩) 255 c (bytesV ((bs.take 255).map UInt8.toNat)) rfl (by have := HL.out; simp [bytesV]; omega) (by simp) HSC.out (bytesV_one _) (by omega) ?_; intro w5 hown5 hg5)
                  go_roundw
                  case rel =>
                    have R5 : w5.ownsRow (w.heap.size + 1) 5 1 (.slice (some ⟨w.heap.size + 1, 0, none⟩) (44 + (s + (2 + 255))) (44 + S + el)) (44 + (s + (2 + 255))) (bytesV (Pr ++ encN ((clamp its).take (i + 1)))) := by
                      rw [HEN.out, Nat.min_eq_left (by omega), ← List.append_assoc, ← List.append_assoc, bytesV_append, bytesV_append]
                      exact hown5
                    have R6 : s + (2 + 255) = (enc ((clamp its).take (i + 1))).length := by rw [HEK.out, Nat.min_eq_left (by omega)]
                    have R7 : Below (w.heap.size + 1) W0 w5 := hb4.grown hg5 (Nat.le_trans hW0a hb4.size) (by simp)
                    repeat apply Exists.intro
                    exact ⟨⟨i + 1, s + (2 + 255), by omega, by go_num, R6, rfl, R5, R7⟩, rfl⟩
                  case measure => simp [intOf]; omega
                · have hgv : ¬ (255 : Int) < L := by omega
                  go_upto_region 31 with (at_builtin; refine wpList_append_fits _ rfl (.tmp 132) (.tmp 141) 22 rfl (w.heap.size + 1) 5 i5 1 Ybaf.underlying22 hi hz1 (w.heap.size + 1) (44 + s) (44 + S + el) _ rfl (by exact ho.alloc _) ⟨wr.heap.size, 0, none⟩ 2 2 [.int .u8 T.toNat, .int .u8 (L : Int)] rfl rfl (by exact cells_new wr [_, _] 5) (by intro u hu; simp at hu; rcases hu with rfl | rfl <;> rfl) (by omega) ?_; intro w4 hown4 hg4)
                  have hb4 : Below (w.heap.size + 1) W0 w4 := (hb.alloc (Nat.le_trans hW0a hb.size) _).grown hg4 (by have := hb.size; simp; omega) (by simp)
                  have he4 : ∀ p v, w.cell? p = some v → w4.cell? p = some v := fun p v h => (hb4.cell (by have := World.block_lt_of_cell? _ _ h; omega)).trans (HWC.out p v h)
                  have HSC : Hid (∀ ad : Addr, A = some ad → ∀ j u, (bytesV ((bs.take 255).map UInt8.toNat))[j]? = some u → w4.cell? (ad.add j) = some u) := src_cells 255 HHh.out he4
                  clear he4 hg4 ho
                  go_wp2_with (at_builtin; refine wpList_append_fits_any _ rfl (.tmp 143) (.tmp 144) 22 rfl (w.heap.size + 1) 5 i5 1 Ybaf.underlying22 hi hz1 (w.heap.size + 1) (44 + s + 2) (44 + S + el) _ rfl (by exact hown4) A L c (bytesV ((bs.take 255).map UInt8.toNat)) rfl (by have := HL.out; simp [bytesV]; omega) (by intro hA; have := HCN.out hA; omega) HSC.out (bytesV_one _) (by omega) ?_; intro w5 hown5 hg5)
                  go_roundw
                  case rel =>
                    have R5 : w5.ownsRow (w.heap.size + 1) 5 1 (.slice (some ⟨w.heap.size + 1, 0, none⟩) (44 + (s + (2 + L))) (44 + S + el)) (44 + (s + (2 + L))) (bytesV (Pr ++ encN ((clamp its).take (i + 1)))) := by
                      rw [show 44 + (s + (2 + L)) = 44 + s + 2 + L by omega, HEN.out, Nat.min_eq_right (by omega), ← List.append_assoc, ← List.append_assoc, bytesV_append, bytesV_append]
                      exact hown5
                    have R6 : s + (2 + L) = (enc ((clamp its).take (i + 1))).length := by rw [HEK.out, Nat.min_eq_right (by omega)]
                    have R7 : Below (w.heap.size + 1) W0 w5 := hb4.grown hg5 (Nat.le_trans hW0a hb4.size) (by simp)
                    rw [R6] at R5
                    exact ⟨i + 1, by omega, by go_num, by rw [← R6, show 44 + (s + (2 + L)) = 44 + s + 2 + L by omega], R5, R7⟩
                  case measure => simp [intOf]; omega
              · obtain rfl : i = k := by omega
                have hsS : s = S := by rw [hs, HS.out]
                subst hsS
                have HSC : Hid (∀ ad : Addr, ea = some ad → ∀ j u, (bytesV ((ex.take el).map UInt8.toNat))[j]? = some u → wr.cell? (ad.add j) = some u) := src_cells el HEX.out (fun p v h => (hb.cell (by have := World.block_lt_of_cell? _ _ h; omega)).trans (HWC.out p v h))
                clear hs hlt hik
                go_upto_region 33 with (at_builtin; refine wpList_append_fits_any _ rfl (.tmp 146) (.tmp 147) 22 rfl (w.heap.size + 1) 5 i5 1 Ybaf.underlying22 hi hz1 (w.heap.size + 1) (44 + s) (44 + s + el) _ rfl (by exact ho) ea el ecap (bytesV ((ex.take el).map UInt8.toNat)) rfl (by have := HE.out; simp [bytesV]; omega) HENO.out HSC.out (bytesV_one _) (by omega) ?_; intro w6 hown6 hg6)
                have hb6 : Below (w.heap.size + 1) W0 w6 := hb.grown hg6 (Nat.le_trans hW0a hb.size) (by simp)
                have HC5 : Hid (Calls Ybaf.prog 5 #[.slice (some ⟨w.heap.size + 1, 0, none⟩) (44 + s + el) (44 + s + el)] w6 fun e w' => ∃ v xs, e = .returned (.tuple #[.agg (dm x0 x1 x4 x5 wd t v), .nilIface]) ∧ w'.ownsRow w6.heap.size 40 2 v (clamp its).length xs ∧ TlvCells w6 (w.heap.size + 1) (clamp its) xs ∧ Below w6.heap.size w6 w') := by
                  have et : (clamp its).take i = clamp its := List.take_of_length_le (by rw [clamp_len, HM.out]; exact Nat.le_refl _)
                  rw [HPr.out, HHd.out, et, show ex.take el = ex from List.take_of_length_le (by rw [HE.out]; exact Nat.le_refl _)] at hown6
                  exact delay_row (w.heap.size + 1) x0 x1 x4 x5 pad wd s el t (clamp its) ex w6 h0 h1 h4 h5 hp hw ht (by rw [HS.out, et]) (by intro x hx; simp [clamp] at hx; obtain ⟨a, b, _, rfl⟩ := hx; simp; omega) (by omega) HE.out he hown6
                clear hown6 hg6 ho hb
                go_wp2_with fail
                refine HC5.out.mono ?_
                rintro e w7 ⟨v, xs, rfl, hown7, hcells, hb7⟩
                clear HC5
                rw [clamp_len, ← HM.out] at hown7
                have hb7' : Below (w.heap.size + 1) W0 w7 := hb6.trans (hb7.mono (Nat.le_trans hW0a hb6.size))
                obtain ⟨vA, vc, rfl⟩ := own_shape hown7
                have HOW : Hid (w7.ownsRow w6.heap.size 40 2 (.slice vA i vc) i xs) := hown7
                have HTC : Hid (TlvCells w6 (w.heap.size + 1) (clamp its) xs) := hcells
                clear hown7 hcells
                unfold dm
                go_wp2_with fail
                obtain ⟨W1, hW1⟩ : ∃ W1, W1 = w7.alloc (.cells #[.int .u8 ((x0 : Int) / 16), .bool (bits .and .u8 (x0 : Int) 8 != 0), .bool (bits .and .u8 (x0 : Int) 4 != 0), .int .u8 x1, .int .u8 ((x4 : Int) / 16), .int .u8 ((x4 : Int) % 16), .int .u8 ((x5 : Int) / 16), .int .u32 ((wd : Int) / 64), .int .u8 (bits .and .u32 (wd : Int) 63 % 256), .int .u64 (t 0), .int .u64 (t 1), .int .u64 (t 2), .int .u64 (t 3), .slice vA i vc] 31) := ⟨_, rfl⟩
                rw [← hW1]
                have hbW : Below w7.heap.size w7 W1 := by rw [hW1]; exact below_alloc1 _ _
                have hbW' : Below (w.heap.size + 1) W0 W1 := hb7'.trans (hbW.mono (Nat.le_trans hW0a hb7'.size))
                have HBE : Hid (Below w.heap.size w W1) := by
                  have h := below_alloc1 w (.cells #[.int .u64 (t 0), .int .u64 (t 1), .int .u64 (t 2), .int .u64 (t 3)] 44)
                  rw [← HW0.out] at h
                  exact h.trans (hbW'.mono (Nat.le_succ _))
                have H9 : Hid (∀ j, j < 4 → W1.cell? ⟨w7.heap.size, 9 + j, none⟩ = some (.int .u64 (t j))) := by
                  intro j hj
                  rw [hW1]
                  match j, hj with
                  | 0, _ => simp
                  | 1, _ => simp
                  | 2, _ => simp
                  | 3, _ => simp
                have HT1 : Hid (∀ j, j < 4 → W1.cell? ⟨w.heap.size, j, none⟩ = some (.int .u64 (t j))) := fun j hj => (hbW'.cell (by simp)).trans (HTS.out j hj)
                have m13 : W1.cell? ⟨w7.heap.size, 13, none⟩ = some (.slice vA i vc) := by rw [hW1]; simp
                have HOX : Hid (W1.ownsRow w6.heap.size 40 2 (.slice vA i vc) i xs) := own_later HOW.out hbW
                have HWX : Hid (∀ p v, w.cell? p = some v → W1.cell? p = some v) := fun p v h => (HBE.out.cell (World.block_lt_of_cell? _ _ h)).trans h
                have HWY : Hid (∀ p v, w6.cell? p = some v → W1.cell? p = some v) := fun p v h => ((hb7.trans (hbW.mono hb7.size)).cell (World.block_lt_of_cell? _ _ h)).trans h
                clear hbW hbW' HOW hW1 hb7 hb7' hb6 HWC HTS HW0 HSC
                go_loopw [30] (fun iv wr => ∃ j q : Nat, j ≤ 4 ∧ iv = .int .i64 j ∧ wr = W1.drewN q) (fun iv _ => 4 - (intOf iv).toNat)
                case atStart => exact ⟨0, 0, by omega, rfl, rfl⟩
                case round =>
                  obtain ⟨j, q, hj, rfl, rfl⟩ := hrel
                  by_cases hlt : j < 4
                  · have a1 := H9.out j hlt
                    have a2 := HT1.out j hlt
                    have hlt' : (j : Int) < 4 := by omega
                    go_wp2_with fail
                    go_quiet (fail)
                    go_wp2_with fail
                    go_roundw
                    case rel => exact ⟨j + 1, q + nq, by omega, by go_num, by simp⟩
                    case measure => simp [intOf]; omega
                  · obtain rfl : j = 4 := by omega
                    clear hlt hj
                    go_wp2_with fail
                    go_loopw [31] (fun iv wr => ∃ k q : Nat, k ≤ i ∧ iv = .int .i64 k ∧ wr = W1.drewN q) (fun iv _ => i - (intOf iv).toNat)
                    case atStart => exact ⟨0, q, by omega, rfl, rfl⟩
                    case round =>
                      obtain ⟨k, q, hk, rfl, rfl⟩ := hrel
                      by_cases hlt : k < i
                      · have hkl := HM.out
                        obtain ⟨tb, toff, rfl, htb, c1, A, c, hc, hc2, hcn, c2, hh⟩ := HIN.out k (by omega)
                        obtain ⟨tc1, v', tc2, A', c', rfl, hsl⟩ := HTC.out.2 k (by rw [clamp_len]; omega)
                        rw [clamp_at its k (by omega)] at tc1 tc2 hsl
                        simp only [] at tc1 tc2 hsl
                        obtain ⟨T, hTe⟩ : ∃ T, T = (its[k]'(by omega)).1 := ⟨_, rfl⟩
                        obtain ⟨bs, hbs⟩ : ∃ bs, bs = (its[k]'(by omega)).2 := ⟨_, rfl⟩
                        simp only [← hbs] at tc2 hsl c2 hc hh
                        simp only [← hTe] at c1 tc1
                        obtain ⟨vg, hvg⟩ := own_pos HOX.out (by omega)
                        obtain rfl := hvg
                        have e1 : W1.cell? ⟨vg, k * 2, none⟩ = some (.int .u8 T.toNat) := by rw [HOX.out.cellAt (k * 2) (by omega), Nat.mul_comm k 2]; exact tc1
                        have e2 : W1.cell? ⟨vg, k * 2 + 1, none⟩ = some (.slice A' (bs.take 255).length c') := by rw [HOX.out.cellAt (k * 2 + 1) (by omega), Nat.mul_comm k 2]; exact tc2
                        have d1 := HWX.out _ _ c1
                        have d2 := HWX.out _ _ c2
                        have HEQ : Hid (∀ (nn : Nat), Calls Ybaf.prog 7 #[.slice A' (bs.take 255).length c', .slice A (bs.take 255).length c] ((W1.drewN q).drewN nn) fun e w' => e = .returned (.bool true) ∧ ∃ q', w' = ((W1.drewN q).drewN nn).drewN q') := by
                          intro nn
                          refine eq_any A' A _ c' c (bs.take 255) ((W1.drewN q).drewN nn) rfl (by simp; omega) (fun j hj => ?_) (fun j hj => ?_)
                          · obtain ⟨off, ea, ec⟩ := hsl j hj
                            exact ⟨_, off, ea, HWY.out _ _ ec⟩
                          · obtain ⟨b, off, ea, ec⟩ := hh j (by simp at hj; omega)
                            refine ⟨b, off, ea, ?_⟩
                            rw [List.getElem_take]
                            exact HWX.out _ _ ec
                        have HEQ2 : Hid (∀ (nn : Nat), Calls Ybaf.prog 7 #[.slice A' (bs.take 255).length c', .slice A (bs.take 255).length c] (W1.drewN (q + nn)) fun e w' => e = .returned (.bool true) ∧ ∃ q', w' = W1.drewN (q + q')) := by
                          intro nn
                          have h := HEQ.out nn
                          simp only [World.drewN_drewN, Nat.add_assoc] at h
                          refine h.mono ?_
                          rintro e w' ⟨he, q', hq⟩
                          exact ⟨he, nn + q', hq⟩
                        obtain ⟨L, hL⟩ : ∃ L, L = bs.length := ⟨_, rfl⟩
                        rw [← hL] at d2 hc
                        have hlt' : (k : Int) < i := by omega
                        have HL : Hid (L = bs.length) := hL
                        have HHh : Hid (Holds8 w A bs) := hh
                        clear hh hcn hkl c1 c2 hTe hbs hsl tc1 tc2
                        by_cases h255 : 255 < L
                        · have hgv : (255 : Int) < L := by omega
                          obtain ⟨sb, so, rfl, _⟩ := HHh.out.at (by omega)
                          have b255 : (255 : Int) ≤ c := by omega
                          have hc0 : ¬ c = 0 := by omega
                          rw [show (bs.take 255).length = 255 by simp; omega] at e2 HEQ HEQ2
                          clear hL
                          go_wp2_with fail
                          go_quiet ((go_at_call 7; first | exact Calls.quiet_of (HEQ.out _) | exact HEQ2.out _))
                          go_wp2_with fail
                          go_roundw
                          case rel => exact ⟨k + 1, q + nq, by omega, by go_num, by simp⟩
                          case measure => simp [intOf]; omega
                        · have hgv : ¬ (255 : Int) < L := by omega
                          rw [show (bs.take 255).length = L by simp; omega] at e2 HEQ HEQ2
                          clear hL
                          go_wp2_with fail
                          go_quiet ((go_at_call 7; first | exact Calls.quiet_of (HEQ.out _) | exact HEQ2.out _))
                          go_wp2_with fail
                          go_roundw
                          case rel =>
                            repeat apply Exists.intro
                            exact ⟨⟨k + 1, q + nq, by omega, by go_num, by simp⟩, rfl⟩
                          case measure => simp [intOf]; omega
                      · obtain rfl : k = i := by omega
                        clear hlt
                        go_wp2_with fail
                        go_ret
                        have h := HBE.out
                        exact ⟨rfl, h.os, h.tape, h.output, h.size, h.block⟩
end Go.Proofs.YbulkbaliFmt
