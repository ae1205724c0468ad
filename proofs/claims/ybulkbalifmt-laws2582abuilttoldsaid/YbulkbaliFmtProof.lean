import Derived.Test.YbulkbaliFmtCards
import Derived.Test.YbulkbaliFmtLaw
import Derived.Test.YbulkbaliFmtLong
import Derived.WalkKit
import Derived.ProofKit
import Derived.OpenShut
import Derived.ShutString
import Derived.ChangeOld
import Derived.Below
import Derived.Carry
import Derived.Deep.Slices
import Derived.ChangeSame
import Derived.Stop.JoinedTold
import Derived.SevenToldRow
namespace Go.Proofs.YbulkbaliFmt.lawS2582ABuilt
open Go.Proofs.YbulkbaliFmt
open Go.ChangeShapes Go.WideShapes Go.ChangeAt Go.RowKit
open Go.Extern.Stop Go.Stop Go.Extern

theorem own : ownKnob Ybaf.prog.godebug = none := by kernel_rfl
theorem laidOut : laidOutB Ybaf.pinned.checked.prog = true := by kernel_rfl
theorem laid2 : laidOutB Ybaf.prog = true := by kernel_rfl
theorem stops : Ybaf.pinned.checked.prog.stops = ["fmt.errorf"] := by kernel_rfl
theorem stopKnobs : Ybaf.pinned.checked.prog.stopKnobs = [] := by kernel_rfl
theorem quiet (os : Os) : Stop.quiet Ybaf.pinned.checked.prog os := by
  intro k hk
  rw [stopKnobs] at hk
  cases hk
theorem cells5 : Ybaf.prog.cellsOf 5 = 1 := by kernel_rfl
theorem cells26 : Ybaf.prog.cellsOf 26 = 1 := by kernel_rfl
theorem cells22 : Ybaf.prog.cellsOf 22 = 1 := by kernel_rfl
theorem cells44 : Ybaf.prog.cellsOf 44 = 4 := by kernel_rfl
theorem cells46 : Ybaf.prog.cellsOf 46 = 2 := by kernel_rfl

/-- An array of four words, opened. -/
theorem open_four {H : Type} {enc : TypeId × Value → H} {W : World} {base : Nat} {v : Value} {d : DataW H} {ps : List MemPlace}
    (hval : Value.okWide Ybaf.prog W .any base 44 v) (hd : DataW.Trod enc Ybaf.prog W 0 (fun _ => true) true 44 v d ps) :
    ∃ t : Nat → Nat, (∀ k, t k < 18446744073709551616) ∧ v = .agg #[.int .u64 (t 0), .int .u64 (t 1), .int .u64 (t 2), .int .u64 (t 3)] := by
  simp only [Value.okWide, Ybaf.underlying44] at hval
  obtain ⟨cs, rfl, hsz, _⟩ := hval
  rw [cells44] at hsz
  obtain ⟨fuel, hf⟩ := hd
  obtain ⟨xs, m, _, _, _, hxl, hx⟩ := DataW.trod_array Ybaf.underlying44 hf
  have hcell : ∀ i, i < 4 → ∃ n : Nat, n < 18446744073709551616 ∧ cs[i]? = some (.int .u64 n) := by
    intro i hi
    have h := hx i hi
    rw [List.getElem?_eq_getElem (by omega)] at h
    obtain ⟨n, e, _, hw⟩ := DataW.trod_int Ybaf.underlying26 h
    obtain ⟨b1, b2⟩ := bounds_u64 hw
    obtain ⟨k, rfl⟩ : ∃ k : Nat, n = k := ⟨n.toNat, by omega⟩
    refine ⟨k, by omega, ?_⟩
    rw [cells26, Nat.mul_one] at e
    have e' : (Value.agg cs).cells.toList = cs.toList := rfl
    rw [e'] at e
    have := congrArg (fun l => l[0]?) e
    simpa using this
  obtain ⟨t, ht⟩ := Go.Deep.choose_lt (α := Nat) hcell
  refine ⟨fun k => if k < 4 then t k else 0, fun k => ?_, ?_⟩
  · by_cases h : k < 4
    · simp only [if_pos h]; exact (ht k h).1
    · simp only [if_neg h]; omega
  · congr 1
    apply Array.ext
    · simp [hsz]
    · intro i h1 h2
      have hi : i < 4 := by omega
      have h := (ht i hi).2
      rw [Array.getElem?_eq_getElem h1] at h
      rw [Option.some.inj h]
      match i, hi with
      | 0, _ => rfl
      | 1, _ => rfl
      | 2, _ => rfl
      | 3, _ => rfl

/-- A slice of bytes, opened. -/
theorem open_bytes {H : Type} {enc : TypeId × Value → H} {W : World} {fuel : Nat} {cs : List Value} {x : DataW H × List MemPlace}
    (hf : DataW.trod enc Ybaf.prog W 0 (fun _ => true) true fuel 22 cs = some x) :
    ∃ A n c bs, cs = [.slice A n c] ∧ bs.length = n ∧ n ≤ c ∧ c ≤ 9223372036854775807 ∧ (A = none → c = 0) ∧ Holds8 W A bs := by
  rcases open_ints Ybaf.underlying22 Ybaf.underlying5 cells5 hf with ⟨rfl, _⟩ | ⟨a, l, c, zs, rfl, _, hl, hm, hz, _, hcell, hwz⟩
  · exact ⟨none, 0, 0, [], rfl, rfl, Nat.le_refl _, by omega, fun _ => rfl, fun j h => by simp at h⟩
  · have hz' : zs.length = c := by simpa using hz
    refine ⟨some a, l, c, (zs.take l).map (fun z => z.toNat.toUInt8), rfl, by simp; omega, hl, by unfold maxLen at hm; omega, by simp, ?_⟩
    intro j hj
    simp at hj
    obtain ⟨b, off, rfl, hc⟩ := ints_at hcell (by omega)
    refine ⟨b, off, rfl, ?_⟩
    rw [hc j (by omega)]
    have hb := bounds_u8 (hwz (zs[j]'(by omega)) (List.getElem_mem _))
    simp [List.getD, show j < zs.length by omega, Nat.toUInt8, UInt8.toNat_ofNat']
    omega

/-- The objects, opened. -/
theorem open_tlvs {H : Type} {enc : TypeId × Value → H} {W : World} {fuel : Nat} {cs : List Value} {x : DataW H × List MemPlace}
    (hf : DataW.trod enc Ybaf.prog W 0 (fun _ => true) true fuel 45 cs = some x) :
    ∃ A n c its, cs = [.slice A n c] ∧ its.length = n ∧ TlvIn W A its := by
  rcases Go.Deep.open_slice Ybaf.underlying45 hf with ⟨rfl, _⟩ | ⟨a, l, c, m, fu, D, Pl, rfl, _, hl, hm, hmm, _, hx⟩
  · exact ⟨none, 0, 0, [], rfl, rfl, fun k h => by simp at h⟩
  · simp at hmm
    subst hmm
    have each : ∀ i, i < l → ∃ y : UInt8 × List UInt8, ∃ tb toff, a = ⟨tb, toff, none⟩ ∧ W.cell? ⟨tb, toff + i * 2, none⟩ = some (.int .u8 y.1.toNat) ∧ ∃ A c, y.2.length ≤ c ∧ c ≤ 9223372036854775807 ∧ (A = none → c = 0) ∧ W.cell? ⟨tb, toff + i * 2 + 1, none⟩ = some (.slice A y.2.length c) ∧ Holds8 W A y.2 := by
      intro i hi
      obtain ⟨cs', h1, h2⟩ := hx i (by omega)
      rw [cells46] at h1
      obtain ⟨y0, y1, n, _, hlen, g0, g1⟩ := trod_struct2 Ybaf.underlying46 h2
      obtain ⟨_, hlen', hcell⟩ := World.cells?_some h1
      match cs', hlen' with
      | [u0, u1], _ =>
        simp only [cells5, cells22] at g0 g1
        obtain ⟨z, e0, _, hw⟩ := DataW.trod_int Ybaf.underlying5 g0
        obtain ⟨A, n, c', bs, e1, hbl, hnc, hcm, hAn, hh⟩ := open_bytes g1
        simp at e0 e1
        subst e0 e1
        have c0 := hcell 0 (by omega)
        have c1 := hcell 1 (by omega)
        obtain ⟨tb, toff, spot⟩ := a
        have hspot : spot = none := by
          obtain ⟨cs2, k1, _⟩ := hx 0 (by omega)
          rw [cells46] at k1
          obtain ⟨_, hl2, hc2⟩ := World.cells?_some k1
          match cs2, hl2 with
          | [_, _], _ => simpa [Addr.add] using World.cell?_spot (hc2 0 (by omega))
        subst hspot
        rw [Go.WideShapes.add_plain, Go.WideShapes.add_plain] at c0 c1
        obtain ⟨b1, b2⟩ := bounds_u8 hw
        refine ⟨(z.toNat.toUInt8, bs), tb, toff, rfl, ?_, A, c', by simpa [hbl] using hnc, hcm, hAn, ?_, hh⟩
        · simp at c0
          rw [c0]
          simp [Nat.toUInt8, UInt8.toNat_ofNat']
          omega
        · simp at c1
          rw [c1]
          simp [hbl]
    obtain ⟨f, hfn⟩ := Go.Deep.choose_lt (α := UInt8 × List UInt8) each
    refine ⟨some a, l, _, (List.range l).map f, rfl, by simp, ?_⟩
    intro k hk
    simp at hk
    obtain ⟨tb, toff, rfl, c1, rest⟩ := hfn k hk
    simp only [List.getElem_map, List.getElem_range]
    exact ⟨tb, toff, rfl, World.block_lt_of_cell? _ _ c1, c1, rest⟩

set_option maxRecDepth 100000 in
theorem lifted (os : Os) (started : os.Started) (H : Type) (enc : TypeId × Value → H) :
    ReturnsInTold none {} Ybaf.checked os 4 .any Input.okWide ((OpenSpec.ofChange Rows.lawS2582ABuiltSpec).preRow enc Ybaf.prog Ybaf.f4 Rows.lawS2582ABuiltRow.domain false [])
      (fun F => ((OpenSpec.ofChange Rows.lawS2582ABuiltSpec).at F).post enc Ybaf.prog Ybaf.f4 false true false false) (aloneAtReturn Ybaf.prog) nothingAlways := by
  refine returnsInTold_of_row (C := Ybaf.checked) (s := OpenSpec.ofChange Rows.lawS2582ABuiltSpec) (by kernel_rfl) own started (by kernel_rfl) Ybaf.func4
    (OpenSpec.witness_stopped (enc := enc) (C := Ybaf.checked) false ⟨#[], #[.int .u8 0, .int .u8 0, .int .u8 0, .int .u8 0, .int .u16 0, .int .u32 0, .agg #[.int .u64 0, .int .u64 0, .int .u64 0, .int .u64 0], .slice none 0 0, .slice none 0 0], []⟩ 8 (by kernel_rfl) (by kernel_rfl) (by kernel_rfl) (by kernel_rfl)) ?_
  intro F W base args ds gs before _ hF hval0 hW _ _ hsz _ _
  have hval : ∀ (j : Nat) t v, Ybaf.f4.params[j]? = some t → args[j]? = some v → Value.okWide Ybaf.prog W .any base t v := hval0
  have hW' := hW
  obtain ⟨p, q, hA0, hV, rfl, hfz, hnd⟩ := hW
  have hA : DataW.TrodAll enc Ybaf.prog W 0 (fun _ => true) true Ybaf.f4.params.toList args.toList ds p := hA0
  rw [Ybaf.params4] at hA hval
  obtain ⟨v0, vs0, d0, ds0, p0, q0, ha0, rfl, rfl, h0, r0⟩ := trodAll_cons hA
  obtain ⟨v1, vs1, d1, ds1, p1, q1, rfl, rfl, rfl, h1, r1⟩ := trodAll_cons r0
  obtain ⟨v2, vs2, d2, ds2, p2, q2, rfl, rfl, rfl, h2, r2⟩ := trodAll_cons r1
  obtain ⟨v3, vs3, d3, ds3, p3, q3, rfl, rfl, rfl, h3, r3⟩ := trodAll_cons r2
  obtain ⟨v4, vs4, d4, ds4, p4, q4, rfl, rfl, rfl, h4, r4⟩ := trodAll_cons r3
  obtain ⟨v5, vs5, d5, ds5, p5, q5, rfl, rfl, rfl, h5, r5⟩ := trodAll_cons r4
  obtain ⟨v6, vs6, d6, ds6, p6, q6, rfl, rfl, rfl, h6, r6⟩ := trodAll_cons r5
  obtain ⟨v7, vs7, d7, ds7, p7, q7, rfl, rfl, rfl, h7, r7⟩ := trodAll_cons r6
  obtain ⟨v8, vs8, d8, ds8, p8, q8, rfl, rfl, rfl, h8, r8⟩ := trodAll_cons r7
  obtain ⟨rfl, rfl, rfl⟩ := trodAll_nil r8
  obtain rfl : args = #[v0, v1, v2, v3, v4, v5, v6, v7, v8] := by cases args; simp_all
  obtain ⟨rfl, rfl⟩ := trodVars_none hV
  have lt6 : ∀ x ∈ p6, x.block < W.heap.size := by obtain ⟨m, hm⟩ := h6; exact DataW.trod_lt m _ _ _ hm
  have lt7 : ∀ x ∈ p7, x.block < W.heap.size := by obtain ⟨m, hm⟩ := h7; exact DataW.trod_lt m _ _ _ hm
  have lt8 : ∀ x ∈ p8, x.block < W.heap.size := by obtain ⟨m, hm⟩ := h8; exact DataW.trod_lt m _ _ _ hm
  obtain ⟨x0, rfl, rfl, rfl, w0⟩ := open_int Ybaf.underlying5 (hval 0 5 v0 rfl rfl) h0
  obtain ⟨x1, rfl, rfl, rfl, w1⟩ := open_int Ybaf.underlying5 (hval 1 5 v1 rfl rfl) h1
  obtain ⟨x4, rfl, rfl, rfl, w2⟩ := open_int Ybaf.underlying5 (hval 2 5 v2 rfl rfl) h2
  obtain ⟨x5, rfl, rfl, rfl, w3⟩ := open_int Ybaf.underlying5 (hval 3 5 v3 rfl rfl) h3
  obtain ⟨pad, rfl, rfl, rfl, w4⟩ := open_int Ybaf.underlying43 (hval 4 43 v4 rfl rfl) h4
  obtain ⟨wd, rfl, rfl, rfl, w5⟩ := open_int Ybaf.underlying25 (hval 5 25 v5 rfl rfl) h5
  obtain ⟨t, ht, rfl⟩ := open_four (hval 6 44 v6 rfl rfl) h6
  obtain ⟨A7, n7, c7, rfl⟩ := okWide_slice Ybaf.underlying45 (hval 7 45 v7 rfl rfl)
  obtain ⟨A8, n8, c8, rfl⟩ := okWide_slice Ybaf.underlying22 (hval 8 22 v8 rfl rfl)
  obtain ⟨its, l7, hin⟩ : ∃ its : List (UInt8 × List UInt8), its.length = n7 ∧ TlvIn W A7 its := by
    obtain ⟨fuel, hf⟩ := h7
    obtain ⟨A, n, c, its, e, hl, h⟩ := open_tlvs hf
    simp [Value.cells] at e
    obtain ⟨rfl, rfl, rfl⟩ := e
    exact ⟨its, hl, h⟩
  obtain ⟨ex, l8, hec, hen, hex⟩ : ∃ ex : List UInt8, ex.length = n8 ∧ n8 ≤ c8 ∧ (A8 = none → c8 = 0) ∧ Holds8 W A8 ex := by
    obtain ⟨fuel, hf⟩ := h8
    obtain ⟨A, n, c, ex, e, hl, g1, _, g3, h⟩ := open_bytes hf
    simp [Value.cells] at e
    obtain ⟨rfl, rfl, rfl⟩ := e
    exact ⟨ex, hl, g1, g3, h⟩
  clear hA0 hval0
  have walked : Calls Ybaf.prog 4 #[.int .u8 x0, .int .u8 x1, .int .u8 x4, .int .u8 x5, .int .u16 pad, .int .u32 wd, .agg #[.int .u64 (t 0), .int .u64 (t 1), .int .u64 (t 2), .int .u64 (t 3)], .slice A7 n7 c7, .slice A8 n8 c8] W fun e w' => e = .returned (.bool true) ∧ Below W.heap.size W w' := by
    obtain ⟨a1, a2⟩ := bounds_u8 w0
    obtain ⟨b1, b2⟩ := bounds_u8 w1
    obtain ⟨e1, e2⟩ := bounds_u8 w2
    obtain ⟨f1, f2⟩ := bounds_u8 w3
    obtain ⟨g1, g2⟩ := bounds_u16 w4
    obtain ⟨i1, i2⟩ := bounds_u32 w5
    obtain ⟨x0, rfl⟩ : ∃ k : Nat, x0 = k := ⟨x0.toNat, by omega⟩
    obtain ⟨x1, rfl⟩ : ∃ k : Nat, x1 = k := ⟨x1.toNat, by omega⟩
    obtain ⟨x4, rfl⟩ : ∃ k : Nat, x4 = k := ⟨x4.toNat, by omega⟩
    obtain ⟨x5, rfl⟩ : ∃ k : Nat, x5 = k := ⟨x5.toNat, by omega⟩
    obtain ⟨pad, rfl⟩ : ∃ k : Nat, pad = k := ⟨pad.toNat, by omega⟩
    obtain ⟨wd, rfl⟩ : ∃ k : Nat, wd = k := ⟨wd.toNat, by omega⟩
    by_cases hm : n7 ≤ 1024
    · by_cases he : n8 ≤ 1024
      · subst l7 l8
        exact built_any x0 x1 x4 x5 pad wd t A7 c7 its A8 c8 ex W (by omega) (by omega) (by omega) (by omega) (by omega) (by omega) ht hm he hec hin hex hen
      · exact built_extra x0 x1 x4 x5 pad wd t A7 n7 c7 A8 n8 c8 W hm (by omega)
    · exact built_long x0 x1 x4 x5 pad wd t A7 n7 c7 A8 n8 c8 W (by omega)
  refine walked.mono fun e W' ⟨he, bel⟩ => ?_
  subst he
  exact ⟨_, rfl, _, _, _, [], _, [], hW', trodAll_mk1 (shut_bool Ybaf.underlying4 _),
    trodAll_cons_mk (shut_int Ybaf.underlying5 w0) (trodAll_cons_mk (shut_int Ybaf.underlying5 w1) (trodAll_cons_mk (shut_int Ybaf.underlying5 w2) (trodAll_cons_mk (shut_int Ybaf.underlying5 w3) (trodAll_cons_mk (shut_int Ybaf.underlying43 w4) (trodAll_cons_mk (shut_int Ybaf.underlying25 w5)
      (trodAll_cons_mk (Below.trod laid2 (by kernel_rfl) (of_decide_eq_true (by kernel_rfl)) h6 bel lt6) (trodAll_cons_mk (Below.trod laid2 (by kernel_rfl) (of_decide_eq_true (by kernel_rfl)) h7 bel lt7) (trodAll_cons_mk (Below.trod laid2 (by kernel_rfl) (of_decide_eq_true (by kernel_rfl)) h8 bel lt8) trodAll_mk0)))))))), rfl, bel.frame _, fun h => by cases h⟩

theorem proved : Rows.LawS2582ABuiltToldSaid :=
  Claim7.holds_of_told_any 4 Ybaf.f4 "fmt.errorf" [] [] _ _ _ (by kernel_rfl) rfl rfl rfl laidOut (by kernel_rfl) rfl ⟨rfl, rfl, rfl, rfl, rfl, rfl, rfl⟩ rfl rfl (by kernel_rfl) (by kernel_rfl) Ybaf.func4 (by kernel_rfl)
    (of_decide_eq_true (by kernel_rfl)) (of_decide_eq_true (by kernel_rfl)) stops.symm rfl stopKnobs.symm (by kernel_rfl)
    (by kernel_rfl) (by kernel_rfl) (by kernel_rfl) (by kernel_rfl) (by kernel_rfl) (by kernel_rfl) (by kernel_rfl) (by kernel_rfl) (by kernel_rfl) rfl (by kernel_rfl) rfl rfl
    rfl rfl
    rfl (by kernel_rfl) (by kernel_rfl) (by kernel_rfl) (by decide) (by kernel_rfl)
    (OpenClaim.moreEntering_of (by kernel_rfl) (by kernel_rfl) (by kernel_rfl) (by kernel_rfl) (by kernel_rfl) (by kernel_rfl) (by kernel_rfl) (by kernel_rfl) (by kernel_rfl) (by kernel_rfl))
    ⟨_, WideRow.started_initial, quiet _⟩
    (fun os started _ H enc _ => lifted os started H enc)
end Go.Proofs.YbulkbaliFmt.lawS2582ABuilt
