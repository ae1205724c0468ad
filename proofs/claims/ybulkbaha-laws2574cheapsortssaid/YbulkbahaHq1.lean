import Derived.Test.YbulkbahaHq0
namespace Go.Proofs.Ybulkbaha
open Go.RowKit Go.Sort

theorem nilchk (ts : Array TypeId) (t : TypeId) (a : Addr) (x y : String) : Builtin.ssaWrapNilChk_ ts t #[.pointer (some a), strVal x, strVal y] = pure (.pointer (some a)) := rfl
theorem und43 : Yba.prog.underlying 43 = some (.pointer 38) := by kernel_rfl
theorem mth {a : Addr} {w : World} {v : Value} (name : String) (f : Nat) (hm : ((Yba.prog.info? 43).bind fun i => (i.methods.find? (·.name == name)).map fun m => (m.path, m.func)) = some (#[], some (f, false)))
   (h : w.cell? a = some v) : (method 255 43 (.pointer (some a)) name).run Yba.prog w = .ok (f, v) w := by
  cases hi : Yba.prog.info? 43 with
  | none => rw [hi] at hm; simp at hm
  | some i =>
    rw [hi] at hm
    simp only [Option.bind_some, Option.map_eq_some_iff, Prod.mk.injEq] at hm
    obtain ⟨m, hm1, hm2, hm3⟩ := hm
    rw [method]
    have ht : (typeInfo 43).run Yba.prog w = .ok i w := by
      unfold typeInfo
      simp [Sem.run_bind, program, Sem.run, hi, Result.andThen]
    rw [Sem.run_bind, ht]
    simp only [Result.andThen]
    rw [hm1]
    simp only [hm2, hm3]
    simp [ follow, receiverAt, run_underlying und43, nilchk, Place.get, asAddr, loadVar, isAgg, run_underlying Yba.underlying38, Result.andThen, h]
theorem mLess {a : Addr} {w : World} {v : Value} (h : w.cell? a = some v) : (method 255 43 (.pointer (some a)) "Less").run Yba.prog w = .ok (59, v) w := mth "Less" 59 (by kernel_rfl) h
theorem mLen {a : Addr} {w : World} {v : Value} (h : w.cell? a = some v) : (method 255 43 (.pointer (some a)) "Len").run Yba.prog w = .ok (58, v) w := mth "Len" 58 (by kernel_rfl) h
theorem mSwap {a : Addr} {w : World} {v : Value} (h : w.cell? a = some v) : (method 255 43 (.pointer (some a)) "Swap").run Yba.prog w = .ok (60, v) w := mth "Swap" 60 (by kernel_rfl) h
theorem mPush (a : Addr) (w : World) : (method 255 43 (.pointer (some a)) "Push").run Yba.prog w = .ok (61, .pointer (some a)) w := by kernel_rfl
theorem mPop (a : Addr) (w : World) : (method 255 43 (.pointer (some a)) "Pop").run Yba.prog w = .ok (11, .pointer (some a)) w := by kernel_rfl

/-- container/heap.up, from j, at most f rounds. -/
def upFuel (K : Nat → Int) : Nat → Nat → Array Nat → Array Nat
  | 0, _, bs => bs
  | f + 1, j, bs => if j = 0 then bs else if !decide (K bs[j]! < K bs[(j - 1) / 2]!) then bs else upFuel K f ((j - 1) / 2) (swp bs ((j - 1) / 2) j)
theorem upFuel_same (K : Nat → Int) : ∀ (f g j : Nat) (bs : Array Nat), j ≤ f → j ≤ g → upFuel K f j bs = upFuel K g j bs := by
  intro f
  induction f with
  | zero =>
    intro g j bs hf hg
    obtain rfl : j = 0 := by omega
    cases g with
    | zero => rfl
    | succ g => simp [upFuel]
  | succ f ih =>
    intro g j bs hf hg
    cases g with
    | zero =>
      obtain rfl : j = 0 := by omega
      simp [upFuel]
    | succ g =>
      rw [upFuel, upFuel]
      by_cases hj : j = 0
      · rw [if_pos hj, if_pos hj]
      · rw [if_neg hj, if_neg hj, ih g ((j - 1) / 2) _ (by omega) (by omega)]
/-- container/heap.up, from j. -/
def upLoop (K : Nat → Int) (j : Nat) (bs : Array Nat) : Array Nat := upFuel K j j bs
theorem upLoop_eq (K : Nat → Int) (j : Nat) (bs : Array Nat) : upLoop K j bs = if j = 0 then bs else if !decide (K bs[j]! < K bs[(j - 1) / 2]!) then bs else upLoop K ((j - 1) / 2) (swp bs ((j - 1) / 2) j) := by
  unfold upLoop
  cases j with
  | zero => rfl
  | succ j => rw [upFuel, upFuel_same K j ((j + 1 - 1) / 2) ((j + 1 - 1) / 2) _ (by omega) (Nat.le_refl _)]

set_option maxRecDepth 100000 in
set_option maxHeartbeats 2000000 in
theorem up_any (qb g cap n j0 : Nat) (K : Nat → Int) (bs : Array Nat) (w : World) (h : HQ w qb g cap K bs) (hn : bs.size = n) (hj : j0 < n) (hn2 : n ≤ 1024) :
    Calls Yba.prog 18 #[.iface 43 (.pointer (some ⟨qb, 0, none⟩)), .int .i64 j0] w fun e w' => e = .returned (.tuple #[]) ∧ HQ w' qb g cap K (upLoop K j0 bs) ∧ (upLoop K j0 bs).size = n ∧ Fr (· = g) w w' := by
  go_enter Yba.func18, Yba.ntmps18
  go_wp2_with fail
  go_loopw [1] (fun jv wr => ∃ (j : Nat) (b1 : Array Nat), j < n ∧ jv = .int .i64 j ∧ b1.size = n ∧ HQ wr qb g cap K b1 ∧ Hid (upLoop K j b1 = upLoop K j0 bs) ∧ Fr (· = g) w wr) (fun jv _ => (intOf jv).toNat)
  case atStart => exact ⟨j0, bs, hj, rfl, hn, h, rfl, Fr.refl _ _⟩
  case round =>
    clear h hn
    obtain ⟨j, b1, hj1, rfl, hz, h, heq, hfr⟩ := hrel
    obtain ⟨W1, rfl⟩ : ∃ W1, W1 = wr := ⟨_, rfl⟩
    by_cases hj0 : j = 0
    · subst hj0
      go_wp2_with fail
      go_returns
      have h2 := heq.out
      rw [upLoop_eq, if_pos rfl] at h2
      rw [← h2]
      exact ⟨rfl, h, hz, hfr⟩
    · obtain ⟨k, rfl⟩ : ∃ k, j = k + 1 := ⟨j - 1, by omega⟩
      have hq := h.qcell
      rw [hz] at hq
      have hcap := h.most
      have hroom := h.room
      have e0 : ((k : Int) / 2 == (k : Int) + 1) = false := by simp; omega
      have HH : Hid (HQ W1 qb g cap K b1) := h
      have HF : Hid (Fr (· = g) w W1) := hfr
      clear h hfr
      have hml := mLess hq
      have HE : Hid ((if !decide (K b1[k + 1]! < K b1[k / 2]!) then b1 else upLoop K (k / 2) (swp b1 (k / 2) (k + 1))) = upLoop K j0 bs) := by
        have h2 := heq.out
        rw [upLoop_eq, if_neg hj0, Nat.add_sub_cancel] at h2
        exact h2
      clear heq
      have H1 := qless_any qb g cap n (k + 1) (k / 2) K b1 W1 HH.out hz hj1 (by omega)
      have e1 : ((k + 1 : Nat) : Int) = (k : Int) + 1 := by omega
      have e2 : ((k / 2 : Nat) : Int) = (k : Int) / 2 := by omega
      rw [e1, e2] at H1
      clear e1 e2
      have HH1 : Hid _ := H1
      clear H1
      go_wp2_with fail
      refine Calls.mono HH1.out ?_
      rintro e w2 ⟨rfl, m, rfl⟩
      clear HH1 hml
      have hms := mSwap (w := W1.drewN m) hq
      have H1 := qswap_any qb g cap n (k / 2) (k + 1) K b1 (W1.drewN m) (HH.out.drewN m) hz (by omega) hj1
      have e1 : ((k + 1 : Nat) : Int) = (k : Int) + 1 := by omega
      have e2 : ((k / 2 : Nat) : Int) = (k : Int) / 2 := by omega
      rw [e1, e2] at H1
      clear e1 e2
      have HH1 : Hid _ := H1
      clear H1
      by_cases hl : K b1[k + 1]! < K b1[k / 2]!
      · rw [decide_eq_true hl]
        have HE2 : Hid (upLoop K (k / 2) (swp b1 (k / 2) (k + 1)) = upLoop K j0 bs) := by
          have h2 := HE.out
          rw [decide_eq_true hl] at h2
          exact h2
        clear HE hl
        go_wp2_with fail
        refine Calls.mono HH1.out ?_
        rintro e w3 ⟨rfl, hq3, hf3⟩
        go_wp2_with fail
        go_roundw
        case rel => exact ⟨k / 2, swp b1 (k / 2) (k + 1), by omega, by go_num, by simp [swp, hz], hq3, HE2, (HF.out.drewN m).trans hf3⟩
        case measure => simp [intOf] <;> omega
      · rw [decide_eq_false hl]
        have HE2 : Hid (b1 = upLoop K j0 bs) := by
          have h2 := HE.out
          rw [decide_eq_false hl] at h2
          exact h2
        clear HE hl
        go_wp2_with fail
        go_returns
        rw [← HE2.out]
        exact ⟨rfl, HH.out.drewN m, hz, HF.out.drewN m⟩
end Go.Proofs.Ybulkbaha
