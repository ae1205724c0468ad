import Derived.Test.YbulkbahaSrt7
import Derived.Test.YbulkbahaShelf
import Derived.Laws.Bits64
import Derived.Laws.Bits64b
namespace Go.Proofs.Ybulkbaha
open Go.RowKit Go.Sort

theorem bitLen_eq : ∀ x, x ≤ 1024 → Lib.bitLen x = bitsLen x := by decide +kernel

theorem bitsLen_any (x : Nat) (w : World) (h : x ≤ 1024) : Calls Yba.prog 20 #[.int .u64 x] w fun e w' => e = .returned (.int .i64 (bitsLen x)) ∧ w' = w := by
  go_enter Yba.func20, Yba.ntmps20
  go_wp2_with fail
  have h1 := Yba.bits_Len64 (x : Int) w (by omega) (by omega)
  rw [show ((x : Int)).toNat = x from rfl, bitLen_eq x h] at h1
  refine h1.mono ?_
  rintro e w1 ⟨rfl, rfl⟩
  go_wp2_with fail
  go_ret
  exact ⟨rfl, rfl⟩

theorem wrapU (x : Nat) : IntKind.u64.wrap (x : Int) = ((x % 18446744073709551616 : Nat) : Int) := by
  simp [IntKind.wrap, IntKind.signed, IntKind.bits]

theorem nextPow_any (l : Nat) (w : World) (h : l ≤ 1024) : Calls Yba.prog 35 #[.int .i64 l] w fun e w' => e = .returned (.int .u64 ((1 <<< bitsLen l : Nat) : Int)) ∧ w' = w := by
  have hb : bitsLen l ≤ 11 := by
    unfold bitsLen
    split
    · omega
    · have := (Nat.log2_lt (n := l) (k := 11) (by omega)).2 (by omega)
      omega
  go_enter Yba.func35, Yba.ntmps35
  go_wp2_with fail
  refine (bitsLen_any l w h).mono ?_
  rintro e w1 ⟨rfl, rfl⟩
  go_wp2_with fail
  go_ret
  have e : IntKind.u64.wrap ((2 : Int) ^ bitsLen l) = ((1 <<< bitsLen l : Nat) : Int) := by
    have h2 : (2 : Nat) ^ bitsLen l ≤ 2 ^ 11 := Nat.pow_le_pow_right (by omega) hb
    have h3 : ((2 : Int) ^ bitsLen l) = ((2 ^ bitsLen l : Nat) : Int) := by simp
    rw [Nat.one_shiftLeft, h3, wrapU, Nat.mod_eq_of_lt (Nat.lt_of_le_of_lt h2 (by decide))]
  rw [e]
  exact ⟨rfl, rfl⟩

/-- The generator's word lies in block rb. -/
def Rnd (w : World) (rb r : Nat) : Prop := w.heap[rb]? = some (.cells #[.int .u64 (r : Int)] 73 (0, 0))
theorem Rnd.cell {w : World} {rb r : Nat} (h : Rnd w rb r) : w.cell? ⟨rb, 0, none⟩ = some (.int .u64 r) := by
  unfold Rnd at h
  unfold World.cell?
  rw [h]; rfl
theorem Rnd.free {w : World} {rb r : Nat} (h : Rnd w rb r) : w.frozen? ⟨rb, 0, none⟩ = false := by
  unfold Rnd at h
  unfold World.frozen?
  rw [h]; rfl
theorem Rnd.set {w : World} {rb r : Nat} (h : Rnd w rb r) (m : Nat) : Rnd (w.setCell ⟨rb, 0, none⟩ (.int .u64 (m : Int))) rb m := by
  have h' := heap_setCell_same w rb 0 #[.int .u64 (r : Int)] 73 (.int .u64 (m : Int)) h
  unfold Rnd
  rw [h']; rfl

theorem xorNext_nat (r : Nat) (h : r < 18446744073709551616) (r1 r2 r3 : Nat) (h1 : r1 = r ^^^ (r * 8192 % 18446744073709551616)) (h2 : r2 = r1 ^^^ (r1 / 128)) (h3 : r3 = r2 ^^^ (r2 * 131072 % 18446744073709551616)) : (xorNext (UInt64.ofNat r)).toNat = r3 := by
  subst h1 h2 h3
  simp [xorNext, Nat.shiftLeft_eq, Nat.shiftRight_eq_div_pow, Nat.mod_eq_of_lt h]

set_option maxHeartbeats 1000000 in
theorem next_any (rb : Nat) (r : Nat) (w : World) (hr : Rnd w rb r) (hb : r < 18446744073709551616) :
    Calls Yba.prog 36 #[.pointer (some ⟨rb, 0, none⟩)] w fun e w' => e = .returned (.int .u64 ((xorNext (UInt64.ofNat r)).toNat : Int)) ∧ Rnd w' rb (xorNext (UInt64.ofNat r)).toNat ∧ Below rb w w' := by
  have c := hr.cell
  have f := hr.free
  obtain ⟨r1, h1⟩ : ∃ r1, r1 = r ^^^ (r * 8192 % 18446744073709551616) := ⟨_, rfl⟩
  obtain ⟨r2, h2⟩ : ∃ r2, r2 = r1 ^^^ (r1 / 128) := ⟨_, rfl⟩
  obtain ⟨r3, h3⟩ : ∃ r3, r3 = r2 ^^^ (r2 * 131072 % 18446744073709551616) := ⟨_, rfl⟩
  have b1 : r1 < 18446744073709551616 := by rw [h1]; exact Nat.xor_lt_two_pow (n := 64) hb (Nat.mod_lt _ (by omega))
  have b2 : r2 < 18446744073709551616 := by rw [h2]; exact Nat.xor_lt_two_pow (n := 64) b1 (by omega)
  have e1 : bits .xor .u64 (r : Int) (IntKind.u64.wrap ((r : Int) * 8192)) = (r1 : Int) := by
    have e := wrapU (r * 8192)
    rw [Int.natCast_mul] at e
    rw [show ((r : Int) * 8192) = (r : Int) * ((8192 : Nat) : Int) from rfl, e, bits_xor_u64_nat _ _ hb (Nat.mod_lt _ (by omega)), h1]
  have e2 : bits .xor .u64 (r1 : Int) ((r1 : Int) / 128) = (r2 : Int) := by
    rw [show ((r1 : Int) / 128) = ((r1 / 128 : Nat) : Int) from rfl, bits_xor_u64_nat _ _ b1 (by omega), h2]
  have e3 : bits .xor .u64 (r2 : Int) (IntKind.u64.wrap ((r2 : Int) * 131072)) = (r3 : Int) := by
    have e := wrapU (r2 * 131072)
    rw [Int.natCast_mul] at e
    rw [show ((r2 : Int) * 131072) = (r2 : Int) * ((131072 : Nat) : Int) from rfl, e, bits_xor_u64_nat _ _ b2 (Nat.mod_lt _ (by omega)), h3]
  have HE : Hid ((xorNext (UInt64.ofNat r)).toNat = r3) := xorNext_nat r hb r1 r2 r3 h1 h2 h3
  have HR : Hid (Rnd w rb r) := hr
  clear h1 h2 h3 hr b1 b2
  go_enter Yba.func36, Yba.ntmps36
  go_wp2_with fail
  go_region
  go_wp2_with fail
  go_region
  go_wp2_with fail
  go_region
  have hR3 : Rnd (((w.setCell ⟨rb, 0, none⟩ (.int .u64 (r1 : Int))).setCell ⟨rb, 0, none⟩ (.int .u64 (r2 : Int))).setCell ⟨rb, 0, none⟩ (.int .u64 (r3 : Int))) rb r3 := ((HR.out.set r1).set r2).set r3
  have hB3 : Below rb w (((w.setCell ⟨rb, 0, none⟩ (.int .u64 (r1 : Int))).setCell ⟨rb, 0, none⟩ (.int .u64 (r2 : Int))).setCell ⟨rb, 0, none⟩ (.int .u64 (r3 : Int))) := (((Below.refl rb w).setCell (by exact Nat.le_refl rb) _).setCell (by exact Nat.le_refl rb) _).setCell (by exact Nat.le_refl rb) _
  have cw := hR3.cell
  go_wp2_with fail
  go_ret
  rw [HE.out]
  exact ⟨rfl, hR3, hB3.os, hB3.tape, hB3.output, hB3.size, hB3.block⟩

theorem break_other (r modulus l : Nat) (hm : modulus = 1 <<< bitsLen l) (h8 : 8 ≤ l) : (r &&& (modulus - 1)) < 2 * l := by
  have h1 : (r &&& (modulus - 1)) ≤ modulus - 1 := Nat.and_le_right
  have h2 : modulus ≤ 2 * l := by
    rw [hm, Nat.one_shiftLeft]
    unfold bitsLen
    rw [if_neg (by omega), Nat.pow_succ]
    have := Nat.log2_self_le (n := l) (by omega)
    omega
  omega

/-- The state before round k. -/
def brk (a l modulus i0 : Nat) (d : Array Int) : Nat → UInt64 × Array Int
  | 0 => (UInt64.ofNat l, d)
  | k + 1 => breakStep a l modulus (brk a l modulus i0 d k) (i0 + k)
theorem brk_eq (d : Array Int) (a b l : Nat) (h : l = b - a) (h8 : 8 ≤ l) : breakPatterns d a b = (brk a l (1 <<< bitsLen l) (a + l / 4 * 2 - 1) d 3).2 := by
  unfold breakPatterns
  simp only [← h, ge_iff_le, if_pos h8]
  rfl
theorem brk_size (a l modulus i0 : Nat) (d : Array Int) : ∀ k, (brk a l modulus i0 d k).2.size = d.size := by
  intro k
  induction k with
  | zero => rfl
  | succ k ih => unfold brk breakStep; simp only [size_swp]; exact ih

set_option maxRecDepth 100000 in
set_option maxHeartbeats 2000000 in
theorem breakPatterns_any (blk n a b : Nat) (d : Array Int) (w : World) (hr : Row w blk d) (hn : d.size = n) (hn2 : n ≤ 1024) (hab : a < b) (hb : b ≤ n) :
    Calls Yba.prog 26 #[.slice (some ⟨blk, 0, none⟩) n n, .int .i64 a, .int .i64 b] w fun e w' => e = .returned (.tuple #[]) ∧ Row w' blk (breakPatterns d a b) ∧ Below blk w w' := by
  obtain ⟨l, hl⟩ : ∃ l, l = b - a := ⟨_, rfl⟩
  have HLn : Hid (l = b - a) := hl
  have hlI : (b : Int) - a = l := by omega
  have hla : a + l ≤ n := by omega
  have HR : Hid (Row w blk d) := hr
  have HN : Hid (d.size = n) := hn
  have HLT : Hid (blk < w.heap.size) := hr.lt
  clear hl hr hn
  by_cases h8 : 8 ≤ l
  · have h8' : (8 : Int) ≤ l := by omega
    go_enter Yba.func26, Yba.ntmps26
    go_wp2_with fail
    refine (nextPow_any l _ (by omega)).mono ?_
    rintro e w1 ⟨rfl, hw1⟩
    obtain ⟨M, hM⟩ : ∃ M, 1 <<< bitsLen l = M + 1 := ⟨1 <<< bitsLen l - 1, by rw [Nat.one_shiftLeft]; have := Nat.two_pow_pos (bitsLen l); omega⟩
    obtain ⟨i0, hi0⟩ : ∃ i0, i0 = a + l / 4 * 2 - 1 := ⟨_, rfl⟩
    have HM : Hid (M + 1 = 1 <<< bitsLen l) := hM.symm
    have HI : Hid (i0 = a + l / 4 * 2 - 1) := hi0
    have hiI : (a : Int) + l / 4 * 2 = (i0 : Int) + 1 := by omega
    have hib : a < i0 ∧ i0 + 2 < a + l := by omega
    have HMB : Hid (∀ r, (r &&& M) < 2 * l) := by
      intro r
      have := break_other r (M + 1) l HM.out h8
      rwa [Nat.add_sub_cancel] at this
    have hMb : M < 4096 := by
      have h1 : bitsLen l ≤ 11 := by
        unfold bitsLen
        split
        · omega
        · have := (Nat.log2_lt (n := l) (k := 11) (by omega)).2 (by omega)
          omega
      have h2 : (2 : Nat) ^ bitsLen l ≤ 2 ^ 11 := Nat.pow_le_pow_right (by omega) h1
      rw [Nat.one_shiftLeft] at hM
      omega
    rw [hM]
    have HB1 : Hid (Below w.heap.size w w1) := by rw [hw1]; exact (Below.refl _ _).alloc (Nat.le_refl _) _
    have HD1 : Hid (Rnd w1 w.heap.size l) := by rw [hw1]; exact heap_alloc_new w _
    clear hw1 hM hi0
    go_wp2_with fail
    go_loopw [9] (fun iv wr => ∃ k : Nat, k ≤ 3 ∧ iv = .int .i64 ((i0 + k : Nat) : Int) ∧ Row wr blk (brk a l (M + 1) i0 d k).2 ∧ Rnd wr w.heap.size (brk a l (M + 1) i0 d k).1.toNat ∧ Below blk w wr) (fun iv _ => (i0 + 3) - (intOf iv).toNat)
    case atStart => exact ⟨0, by omega, by go_num, HR.out.keep HB1.out HLT.out, by simpa [brk, Nat.mod_eq_of_lt (show l < 18446744073709551616 by omega)] using HD1.out, HB1.out.mono (Nat.le_of_lt HLT.out)⟩
    case round =>
      obtain ⟨k, hk, rfl, hr, hrd, hbel⟩ := hrel
      obtain ⟨W1, rfl⟩ : ∃ W1, W1 = wr := ⟨_, rfl⟩
      obtain ⟨ix, hix⟩ : ∃ ix, ix = i0 + k := ⟨_, rfl⟩
      rw [← hix]
      by_cases hlt : k < 3
      · have hlt' : (ix : Int) ≤ (i0 : Int) + 1 + 1 := by omega
        have hixn : a ≤ ix ∧ ix < a + l := by omega
        obtain ⟨st, hst⟩ : ∃ st, st = brk a l (M + 1) i0 d k := ⟨_, rfl⟩
        rw [← hst] at hr hrd
        have hsz : st.2.size = n := by rw [hst, brk_size]; exact HN.out
        have hst' : brk a l (M + 1) i0 d (k + 1) = breakStep a l (M + 1) st ix := by rw [brk, ← hst, ← hix]
        have HST : Hid (brk a l (M + 1) i0 d (k + 1) = breakStep a l (M + 1) st ix) := hst'
        have HIX : Hid (ix = i0 + k) := hix
        clear hix hst hst'
        go_wp2_with fail
        refine (next_any w.heap.size st.1.toNat _ hrd st.1.toNat_lt).mono ?_
        rintro e w2 ⟨rfl, hrd2, hb2⟩
        have hr2 : Row w2 blk st.2 := hr.keep hb2 HLT.out
        have hbel2 : Below blk w w2 := hbel.trans (hb2.mono (Nat.le_of_lt HLT.out))
        rw [UInt64.ofNat_toNat] at hrd2 ⊢
        obtain ⟨R, hR⟩ : ∃ R, R = (xorNext st.1).toNat := ⟨_, rfl⟩
        have hRb : R < 18446744073709551616 := by rw [hR]; exact (xorNext st.1).toNat_lt
        rw [← hR] at hrd2 ⊢
        obtain ⟨o, ho⟩ : ∃ o, o = R &&& M := ⟨_, rfl⟩
        have eA : bits .and .u64 (R : Int) (M : Int) = (o : Int) := by rw [bits_and_u64_nat R M hRb (by omega), ho]
        have hob : o < 2 * l := by rw [ho]; exact HMB.out R
        have HBO : Hid (∀ o2, o2 = (if o ≥ l then o - l else o) → breakStep a l (M + 1) st ix = (xorNext st.1, swp st.2 ix (a + o2))) := by
          intro o2 h2
          unfold breakStep
          simp only [Nat.add_sub_cancel, ← hR, ← ho, h2]
        have HRR : Hid (R = (xorNext st.1).toNat) := hR
        have HRD2 : Hid (Rnd w2 w.heap.size R) := hrd2
        have HR2 : Hid (Row w2 blk st.2) := hr2
        have HS2 : Hid (st.2.size = n) := hsz
        clear hr hrd hb2 hbel hrd2 hr2 hR ho hsz
        go_upto_if 43 with fail
        go_cut [10] from 26 to 64 (fun ov wc => ∃ o2 : Nat, ov = .int .i64 o2 ∧ wc = w2 ∧ o2 < l ∧ Hid (o2 = if o ≥ l then o - l else o))
        case first =>
          by_cases hol : o ≥ l
          · have hol' : (l : Int) ≤ o := by omega
            go_wp2_with fail
            go_meet
            exact ⟨o - l, by go_num, rfl, by omega, by rw [if_pos hol]; exact rfl⟩
          · have hol' : ¬ (l : Int) ≤ o := by omega
            go_wp2_with fail
            go_meet
            exact ⟨o, rfl, rfl, by omega, by rw [if_neg hol]; exact rfl⟩
        case rest =>
          obtain ⟨o2, rfl, rfl, ho2, heo⟩ := hcut
          have HBS : Hid (breakStep a l (M + 1) st ix = (xorNext st.1, swp st.2 ix (a + o2))) := HBO.out o2 heo.out
          have c1 := HR2.out.cell ix (by have := HS2.out; omega)
          have c2 := HR2.out.cell (a + o2) (by have := HS2.out; omega)
          have f1 := HR2.out.free ix
          have f2 := HR2.out.free (a + o2)
          obtain ⟨x, hx⟩ : ∃ x, x = st.2[ix]! := ⟨_, rfl⟩
          obtain ⟨y, hy⟩ : ∃ y, y = st.2[a + o2]! := ⟨_, rfl⟩
          have hsw := HR2.out.swap ix (a + o2)
          rw [← hx] at c1
          rw [← hy] at c2
          rw [← hx, ← hy] at hsw
          have HSW : Hid (Row ((wc.setCell ⟨blk, ix, none⟩ (.int .u64 y)).setCell ⟨blk, a + o2, none⟩ (.int .u64 x)) blk (swp st.2 ix (a + o2))) := hsw
          have HBL : Hid (Below blk w ((wc.setCell ⟨blk, ix, none⟩ (.int .u64 y)).setCell ⟨blk, a + o2, none⟩ (.int .u64 x))) := (hbel2.setCell (by exact Nat.le_refl blk) _).setCell (by exact Nat.le_refl blk) _
          have HRD : Hid (Rnd ((wc.setCell ⟨blk, ix, none⟩ (.int .u64 y)).setCell ⟨blk, a + o2, none⟩ (.int .u64 x)) w.heap.size (xorNext st.1).toNat) := by
            have h := HRD2.out
            rw [HRR.out] at h
            have hne : w.heap.size ≠ blk := by have := HLT.out; omega
            exact ((Below.heap_setCell _ _ _ _ (by exact hne)).trans (Below.heap_setCell _ _ _ _ (by exact hne))).trans h
          have HNX : Hid (Value.int .i64 ((ix : Int) + 1) = .int .i64 ((i0 + (k + 1) : Nat) : Int)) := by
            have := HIX.out
            have e : (ix : Int) + 1 = ((i0 + (k + 1) : Nat) : Int) := by omega
            rw [e]
            exact rfl
          have g1 : (ix : Int) < n := by omega
          have g2 : (a : Int) + o2 < n := by omega
          clear heo HBO eA
          by_cases hij : ix = a + o2
          · have hxy : x = y := by rw [hx, hy, hij]
            subst hxy
            clear hx hy hsw
            subst hij
            go_wp2_with fail
            go_region
            go_wp2_with fail
            go_roundw
            case rel =>
              have r4 : Row ((wc.setCell ⟨blk, a + o2, none⟩ (.int .u64 x)).setCell ⟨blk, a + o2, none⟩ (.int .u64 x)) blk (brk a l (M + 1) i0 d (k + 1)).2 := by rw [HST.out, HBS.out]; exact HSW.out
              have r5 : Rnd ((wc.setCell ⟨blk, a + o2, none⟩ (.int .u64 x)).setCell ⟨blk, a + o2, none⟩ (.int .u64 x)) w.heap.size (brk a l (M + 1) i0 d (k + 1)).1.toNat := by rw [HST.out, HBS.out]; exact HRD.out
              first
                | exact ⟨k + 1, by omega, HNX.out, r4, r5, HBL.out.os, HBL.out.tape, HBL.out.output, HBL.out.size, HBL.out.block⟩
                | (repeat apply Exists.intro; exact ⟨⟨k + 1, by omega, HNX.out, r4, r5, HBL.out.os, HBL.out.tape, HBL.out.output, HBL.out.size, HBL.out.block⟩, rfl⟩)
            case measure => simp [intOf] <;> omega
          · clear hx hy hsw
            go_wp2_with fail
            go_region
            go_wp2_with fail
            go_roundw
            case rel =>
              have r4 : Row ((wc.setCell ⟨blk, ix, none⟩ (.int .u64 y)).setCell ⟨blk, a + o2, none⟩ (.int .u64 x)) blk (brk a l (M + 1) i0 d (k + 1)).2 := by rw [HST.out, HBS.out]; exact HSW.out
              have r5 : Rnd ((wc.setCell ⟨blk, ix, none⟩ (.int .u64 y)).setCell ⟨blk, a + o2, none⟩ (.int .u64 x)) w.heap.size (brk a l (M + 1) i0 d (k + 1)).1.toNat := by rw [HST.out, HBS.out]; exact HRD.out
              first
                | exact ⟨k + 1, by omega, HNX.out, r4, r5, HBL.out.os, HBL.out.tape, HBL.out.output, HBL.out.size, HBL.out.block⟩
                | (repeat apply Exists.intro; exact ⟨⟨k + 1, by omega, HNX.out, r4, r5, HBL.out.os, HBL.out.tape, HBL.out.output, HBL.out.size, HBL.out.block⟩, rfl⟩)
            case measure => simp [intOf] <;> omega
      · obtain rfl : k = 3 := by omega
        have hlt' : ¬ (ix : Int) ≤ (i0 : Int) + 1 + 1 := by omega
        go_wp2_with fail
        go_returns
        have e : breakPatterns d a b = (brk a l (M + 1) i0 d 3).2 := by rw [brk_eq d a b l HLn.out h8, ← HM.out, ← HI.out]
        rw [e]
        exact ⟨rfl, hr, hbel⟩
  · have h8' : ¬ (8 : Int) ≤ l := by omega
    go_enter Yba.func26, Yba.ntmps26
    go_wp2_with fail
    go_returns
    have e : breakPatterns d a b = d := by
      unfold breakPatterns
      simp only [← HLn.out, ge_iff_le, if_neg h8]
    rw [e]
    exact ⟨rfl, HR.out, Below.refl _ _⟩
end Go.Proofs.Ybulkbaha
