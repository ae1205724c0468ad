import Derived.Test.YbulkbahaProg
import Derived.Test.YbulkbahaDigits
import Derived.WalkKit
import Derived.WalkSpells
import Derived.WalkLawsBesides
import Derived.Deep.QuietTactic
import Derived.BigQuiet
import Derived.Deep.DeepCutAuto
import Derived.Deep.CutBlock
namespace Go.Proofs.Ybulkbaha
open Go.RowKit
open Go.Proofs.Ybulkbaha.Plain

set_option maxHeartbeats 400000 in
theorem div64_zero (y : Int) (w : World) (hy : 1 ≤ y) (hy' : y < 18446744073709551616) :
    Calls Yba.prog 16 #[.int .u64 0, .int .u64 0, .int .u64 y] w fun e w' => e = .returned (.tuple #[.int .u64 0, .int .u64 0]) ∧ ∃ n, w' = w.drewN n := by
  have h0 : (y == 0) = false := by simp; omega
  go_enter Yba.func16, Yba.ntmps16
  go_wp2
  go_quiet (fail)
  go_wp2
  go_ret2
  exact ⟨rfl, _, rfl⟩

theorem ret_two {a b r : Int} (h : a = b) : ∃ r', Ending.returned (.tuple #[.int .u64 a, .int .u64 r]) = .returned (.tuple #[.int .u64 b, .int .u64 r']) := ⟨r, by rw [h]⟩

set_option maxHeartbeats 1000000 in
theorem div64_any (hi y : Nat) (s : Nat) (w : World) (h1 : 1 ≤ hi) (h2 : hi < y) (_h3 : y < 18446744073709551616) (hs : s ≤ 63)
    (hlz : ∀ w, Calls Yba.prog 22 #[.int .u64 y] w fun e w' => e = .returned (.int .i64 s) ∧ w' = w)
    (hY1 : 9223372036854775808 ≤ y * 2 ^ s) (hY2 : y * 2 ^ s < 18446744073709551616) :
    Calls Yba.prog 16 #[.int .u64 hi, .int .u64 0, .int .u64 y] w fun e w' => (∃ r, e = .returned (.tuple #[.int .u64 ((hi * 18446744073709551616 / y : Nat) : Int), .int .u64 r])) ∧ w' = w := by
  have h0 : ((y : Int) == 0) = false := by simp; omega
  have h0' : ((hi : Int) == 0) = false := by simp; omega
  have HZ : Hid (∀ w, Calls Yba.prog 22 #[.int .u64 y] w fun e w' => e = .returned (.int .i64 s) ∧ w' = w) := hlz
  have hu : hi * 2 ^ s < y * 2 ^ s := Nat.mul_lt_mul_of_pos_right h2 (Nat.pow_pos (by omega))
  have HR : Hid (hi * 18446744073709551616 / y = (hi * 2 ^ s) * 18446744073709551616 / (y * 2 ^ s)) := (unshift hi y s).symm
  have e1 : IntKind.u64.wrap ((y : Int) * 2 ^ s) = ((y * 2 ^ s : Nat) : Int) := wrapZ _ _ hY2 (shl_cast y s)
  have e2 : IntKind.u64.wrap ((hi : Int) * 2 ^ s) = ((hi * 2 ^ s : Nat) : Int) := wrapZ _ _ (by omega) (shl_cast hi s)
  generalize y * 2 ^ s = Y at *
  generalize hi * 2 ^ s = u at *
  have e3 := or_zero u (by omega)
  have e4 := Go.Proofs.Mul64.maskN Y hY2
  have e5 := and_zero
  have y0b : Y % 4294967296 < 4294967296 := Nat.mod_lt _ (by omega)
  obtain ⟨y0, hy0⟩ : ∃ y0, y0 = Y % 4294967296 := ⟨_, rfl⟩
  rw [← hy0] at e4 y0b
  have HY0 : Hid (y0 = Y % 4294967296) := hy0
  obtain ⟨y1, hy1⟩ : ∃ y1, y1 = Y / 4294967296 := ⟨_, rfl⟩
  have e6 : (Y : Int) / 4294967296 = (y1 : Int) := by omega
  have y1a : 2147483648 ≤ y1 := by omega
  have y1b : y1 < 4294967296 := by omega
  have HY1 : Hid (y1 = Y / 4294967296) := hy1
  obtain ⟨q, qy, r, f1, f2, f3, f4, f5, f6, f7, hD⟩ := digit_start Y u y1 hY1 hY2 hu hy1
  obtain ⟨Q1, hQ1⟩ : ∃ Q1, Q1 = u * 4294967296 / Y := ⟨_, rfl⟩
  have HQ1 : Hid (Q1 = u * 4294967296 / Y) := hQ1
  have hQ1b : Q1 < 4294967296 := by rw [hQ1]; exact quo_lt Y u hu
  have f8 := wrapN q (by have := hD.2.2; omega)
  have f9 := wrapN r (by omega)
  have HD : Hid (Dig Y u q r) := hD
  clear hlz hy0 hy1 hQ1 hD
  go_enter Yba.func16, Yba.ntmps16
  go_upto_block 0 with (go_at_call 22; refine (HZ.out _).mono ?_; rintro e w' ⟨rfl, hw⟩; rw [hw])
  go_cut [15, 16] (fun a _ wc => wc = w ∧ a = .int .u64 Q1)
  case first =>
    go_wp2_with fail
    go_loop [15, 16] (fun a b => ∃ q r : Nat, a = .int .u64 q ∧ b = .int .u64 r ∧ r < 4294967296 ∧ Dig Y u q r) (fun a _ => (intOf a).toNat)
    case atStart => exact ⟨q, r, rfl, rfl, f7, HD.out⟩
    case round =>
      clear f1 f2 f3 f4 f5 f6 f7 f8 f9 HD
      obtain ⟨q, r, rfl, rfl, hr, hD⟩ := hrel
      have hq := hD.2.2
      have hdone := dig_done Y u q r hY1 hD
      have hnext := dig_next Y u q r hY1 hu hD
      have hbr := dig_break Y u (q - 1) (r + Y / 4294967296) hY1
      rw [← HY1.out] at hbr hnext
      rw [← HY0.out] at hdone hnext
      rw [← HQ1.out] at hdone hbr
      have HD : Hid (Dig Y u q r) := hD
      clear hD
      by_cases hA : 4294967296 ≤ q
      · obtain ⟨-, hn⟩ := hnext (.inl hA)
        have HN : Hid (Dig Y u (q - 1) (r + y1)) := hn
        have hq1 : (q : Int) ≤ 4294967297 := by omega
        have hq2 : (4294967296 : Int) ≤ (q : Int) := by omega
        have HQ : Hid (q - 1 ≤ 4294967296) := by show q - 1 ≤ 4294967296; omega
        clear hq hA
        obtain ⟨r2, hr2⟩ : ∃ r2, r2 = r + y1 := ⟨_, rfl⟩
        have er2 : (r : Int) + y1 = r2 := by omega
        rw [← hr2] at hbr HN hn
        clear hr2
        by_cases hb : 4294967296 ≤ r2
        · have HB : Hid (q - 1 = Q1) := hbr hn HQ.out hb
          have hb2 : decide ((4294967296 : Int) ≤ r2) = true := by simp; omega
          clear hn hnext hbr hdone hb
          go_wp2_with fail
          go_meet
          case rel => exact ⟨rfl, by rw [← HB.out]; go_num⟩
        · have HB : Hid (r2 < 4294967296) := by show r2 < 4294967296; omega
          have hb2 : decide ((4294967296 : Int) ≤ r2) = false := by simp; omega
          clear hn hnext hbr hdone hb
          go_wp2_with fail
          go_round
          case rel => exact ⟨q - 1, r2, by go_num, by go_num, HB.out, HN.out⟩
          case measure => simp [intOf]; omega
      · have hg : decide ((4294967296 : Int) ≤ (q : Int)) = false := by simp; omega
        have hq1 : (q : Int) < 4294967296 := by omega
        have hpb : q * y0 ≤ 4294967296 * 4294967295 := Nat.mul_le_mul (by omega) (by omega)
        have ep0 : IntKind.u64.wrap ((q : Int) * y0) = ((q * y0 : Nat) : Int) := wrapZ _ _ (by omega) (by simp)
        obtain ⟨p, hp⟩ : ∃ p, p = q * y0 := ⟨_, rfl⟩
        rw [← hp] at ep0 hdone hnext
        have e7 : IntKind.u64.wrap (4294967296 * (r : Int)) = 4294967296 * (r : Int) := by rw [IntKind.wrap_u64]; omega
        clear hpb hp
        by_cases hB : 4294967296 * r < p
        · obtain ⟨hq0, hn⟩ := hnext (.inr hB)
          have HN : Hid (Dig Y u (q - 1) (r + y1)) := hn
          have hq2 : (1 : Int) ≤ (q : Int) := by omega
          have hg2 : decide (4294967296 * (r : Int) < (p : Int)) = true := by simp; omega
          have HQ : Hid (q - 1 ≤ 4294967296) := by show q - 1 ≤ 4294967296; omega
          clear hq hA hB hq0
          obtain ⟨r2, hr2⟩ : ∃ r2, r2 = r + y1 := ⟨_, rfl⟩
          have er2 : (r : Int) + y1 = r2 := by omega
          rw [← hr2] at hbr HN hn
          clear hr2
          by_cases hb : 4294967296 ≤ r2
          · have HB : Hid (q - 1 = Q1) := hbr hn HQ.out hb
            have hb2 : decide ((4294967296 : Int) ≤ r2) = true := by simp; omega
            clear hn hnext hbr hdone hb
            go_wp2_with fail
            go_meet
            case rel => exact ⟨rfl, by rw [← HB.out]; go_num⟩
          · have HB : Hid (r2 < 4294967296) := by show r2 < 4294967296; omega
            have hb2 : decide ((4294967296 : Int) ≤ r2) = false := by simp; omega
            clear hn hnext hbr hdone hb
            go_wp2_with fail
            go_round
            case rel => exact ⟨q - 1, r2, by go_num, by go_num, HB.out, HN.out⟩
            case measure => simp [intOf]; omega
        · have HB : Hid (q = Q1) := hdone (by omega)
          have hg2 : decide (4294967296 * (r : Int) < (p : Int)) = false := by simp; omega
          clear hnext hbr hdone hB hA hq
          go_wp2_with fail
          go_meet
          case rel => exact ⟨rfl, by rw [← HB.out]⟩
  case rest =>
    obtain ⟨hwc, rfl⟩ := hcut
    rw [hwc]
    clear f1 f2 f3 f4 f5 f6 f7 f8 f9 HD e1 e2 e3 e4 e5 e6
    obtain ⟨v, hve⟩ : ∃ v, v = u * 4294967296 % Y := ⟨_, rfl⟩
    obtain ⟨a, b, g1, g2, g3, g4, hv⟩ := part_rem Y u v Q1 hY2 hu HQ1.out hve
    have HV : Hid (v = u * 4294967296 % Y) := hve
    obtain ⟨q, qy, r, f1, f2, f3, f4, f5, f6, f7, hD⟩ := digit_start Y v y1 hY1 hY2 hv HY1.out
    obtain ⟨Q0, hQ0⟩ : ∃ Q0, Q0 = v * 4294967296 / Y := ⟨_, rfl⟩
    have HQ0 : Hid (Q0 = v * 4294967296 / Y) := hQ0
    have hQ0b : Q0 < 4294967296 := by rw [hQ0]; exact quo_lt Y v hv
    have f8 := wrapN q (by have := hD.2.2; omega)
    have f9 := wrapN r (by omega)
    have HD : Hid (Dig Y v q r) := hD
    clear hve hQ0 hD
    go_upto_block 2 with fail
    go_cut [18, 16] (fun a _ wc => wc = w ∧ a = .int .u64 Q0)
    case first =>
      go_wp2_with fail
      go_loop [18, 16] (fun a b => ∃ q r : Nat, a = .int .u64 q ∧ b = .int .u64 r ∧ r < 4294967296 ∧ Dig Y v q r) (fun a _ => (intOf a).toNat)
      case atStart => exact ⟨q, r, rfl, rfl, f7, HD.out⟩
      case round =>
        clear f1 f2 f3 f4 f5 f6 f7 f8 f9 HD
        obtain ⟨q, r, rfl, rfl, hr, hD⟩ := hrel
        have hq := hD.2.2
        have hdone := dig_done Y v q r hY1 hD
        have hnext := dig_next Y v q r hY1 hv hD
        have hbr := dig_break Y v (q - 1) (r + Y / 4294967296) hY1
        rw [← HY1.out] at hbr hnext
        rw [← HY0.out] at hdone hnext
        rw [← HQ0.out] at hdone hbr
        have HD : Hid (Dig Y v q r) := hD
        clear hD
        by_cases hA : 4294967296 ≤ q
        · obtain ⟨-, hn⟩ := hnext (.inl hA)
          have HN : Hid (Dig Y v (q - 1) (r + y1)) := hn
          have hq1 : (q : Int) ≤ 4294967297 := by omega
          have hq2 : (4294967296 : Int) ≤ (q : Int) := by omega
          have HQ : Hid (q - 1 ≤ 4294967296) := by show q - 1 ≤ 4294967296; omega
          clear hq hA
          obtain ⟨r2, hr2⟩ : ∃ r2, r2 = r + y1 := ⟨_, rfl⟩
          have er2 : (r : Int) + y1 = r2 := by omega
          rw [← hr2] at hbr HN hn
          clear hr2
          by_cases hb : 4294967296 ≤ r2
          · have HB : Hid (q - 1 = Q0) := hbr hn HQ.out hb
            have hb2 : decide ((4294967296 : Int) ≤ r2) = true := by simp; omega
            clear hn hnext hbr hdone hb
            go_wp2_with fail
            go_meet
            case rel => exact ⟨rfl, by rw [← HB.out]; go_num⟩
          · have HB : Hid (r2 < 4294967296) := by show r2 < 4294967296; omega
            have hb2 : decide ((4294967296 : Int) ≤ r2) = false := by simp; omega
            clear hn hnext hbr hdone hb
            go_wp2_with fail
            go_round
            case rel => exact ⟨q - 1, r2, by go_num, by go_num, HB.out, HN.out⟩
            case measure => simp [intOf]; omega
        · have hg : decide ((4294967296 : Int) ≤ (q : Int)) = false := by simp; omega
          have hq1 : (q : Int) < 4294967296 := by omega
          have hpb : q * y0 ≤ 4294967296 * 4294967295 := Nat.mul_le_mul (by omega) (by omega)
          have ep0 : IntKind.u64.wrap ((q : Int) * y0) = ((q * y0 : Nat) : Int) := wrapZ _ _ (by omega) (by simp)
          obtain ⟨p, hp⟩ : ∃ p, p = q * y0 := ⟨_, rfl⟩
          rw [← hp] at ep0 hdone hnext
          have e7 : IntKind.u64.wrap (4294967296 * (r : Int)) = 4294967296 * (r : Int) := by rw [IntKind.wrap_u64]; omega
          clear hpb hp
          by_cases hB : 4294967296 * r < p
          · obtain ⟨hq0, hn⟩ := hnext (.inr hB)
            have HN : Hid (Dig Y v (q - 1) (r + y1)) := hn
            have hq2 : (1 : Int) ≤ (q : Int) := by omega
            have hg2 : decide (4294967296 * (r : Int) < (p : Int)) = true := by simp; omega
            have HQ : Hid (q - 1 ≤ 4294967296) := by show q - 1 ≤ 4294967296; omega
            clear hq hA hB hq0
            obtain ⟨r2, hr2⟩ : ∃ r2, r2 = r + y1 := ⟨_, rfl⟩
            have er2 : (r : Int) + y1 = r2 := by omega
            rw [← hr2] at hbr HN hn
            clear hr2
            by_cases hb : 4294967296 ≤ r2
            · have HB : Hid (q - 1 = Q0) := hbr hn HQ.out hb
              have hb2 : decide ((4294967296 : Int) ≤ r2) = true := by simp; omega
              clear hn hnext hbr hdone hb
              go_wp2_with fail
              go_meet
              case rel => exact ⟨rfl, by rw [← HB.out]; go_num⟩
            · have HB : Hid (r2 < 4294967296) := by show r2 < 4294967296; omega
              have hb2 : decide ((4294967296 : Int) ≤ r2) = false := by simp; omega
              clear hn hnext hbr hdone hb
              go_wp2_with fail
              go_round
              case rel => exact ⟨q - 1, r2, by go_num, by go_num, HB.out, HN.out⟩
              case measure => simp [intOf]; omega
          · have HB : Hid (q = Q0) := hdone (by omega)
            have hg2 : decide (4294967296 * (r : Int) < (p : Int)) = false := by simp; omega
            clear hnext hbr hdone hB hA hq
            go_wp2_with fail
            go_meet
            case rel => exact ⟨rfl, by rw [← HB.out]⟩
    case rest =>
      obtain ⟨hwc2, rfl⟩ := hcut
      rw [hwc2]
      clear f1 f2 f3 f4 f5 f6 f7 f8 f9 HD
      go_wp2_with fail
      go_ret2
      have ht := two_digits Y u (by omega)
      rw [← HQ1.out, ← HV.out, ← HQ0.out, ← HR.out] at ht
      exact ⟨ret_two (by rw [ht]; omega), rfl⟩
end Go.Proofs.Ybulkbaha
