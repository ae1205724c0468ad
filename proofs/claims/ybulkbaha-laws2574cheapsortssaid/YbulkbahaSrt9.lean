import Derived.Test.YbulkbahaSrt1
import Derived.Test.YbulkbahaSrt3
import Derived.Test.YbulkbahaSrt5
import Derived.Test.YbulkbahaSrt6
import Derived.Test.YbulkbahaSrt8
namespace Go.Proofs.Ybulkbaha
open Go.RowKit Go.Sort

theorem scanUp_rng (p : Int → Bool) (d : Array Int) (j : Nat) : ∀ m i, j + 1 - i ≤ m → i ≤ scanUp p d j i ∧ scanUp p d j i ≤ max i (j + 1) := by
  intro m
  induction m with
  | zero =>
    intro i h
    rw [scanUp_stop p d j i (by rw [decide_eq_false (by omega), Bool.false_and])]
    omega
  | succ m ih =>
    intro i h
    by_cases hc : (decide (i ≤ j) && p d[i]!) = true
    · rw [scanUp_step p d j i hc]
      have hij : i ≤ j := by simp at hc; omega
      have := ih (i + 1) (by omega)
      omega
    · rw [scanUp_stop p d j i (by simpa using hc)]
      omega
theorem scanDown_rng (p : Int → Bool) (d : Array Int) (i : Nat) : ∀ j, scanDown p d i j ≤ j := by
  intro j
  induction j with
  | zero => exact Nat.le_refl _
  | succ j ih =>
    rw [scanDown]
    split
    · omega
    · omega
theorem partEqLoop_rng (a : Nat) : ∀ m i j (d : Array Int), j + 1 - i ≤ m → i ≤ (partEqLoop ltInt a i j d).1 ∧ (partEqLoop ltInt a i j d).1 ≤ max i (j + 1) := by
  intro m
  induction m with
  | zero =>
    intro i j d h
    have h1 := scanUp_rng (fun x => !ltInt d[a]! x) d j _ i (Nat.le_refl _)
    have h2 := scanDown_rng (fun x => ltInt d[a]! x) d (scanUp (fun x => !ltInt d[a]! x) d j i) j
    rw [partEqLoop_eq a i j d _ _ rfl rfl h1.1 h2, if_pos (by omega)]
    exact h1
  | succ m ih =>
    intro i j d h
    have h1 := scanUp_rng (fun x => !ltInt d[a]! x) d j _ i (Nat.le_refl _)
    have h2 := scanDown_rng (fun x => ltInt d[a]! x) d (scanUp (fun x => !ltInt d[a]! x) d j i) j
    rw [partEqLoop_eq a i j d _ _ rfl rfl h1.1 h2]
    split
    · exact h1
    · have := ih (scanUp (fun x => !ltInt d[a]! x) d j i + 1) (scanDown (fun x => ltInt d[a]! x) d (scanUp (fun x => !ltInt d[a]! x) d j i) j - 1) (swp d (scanUp (fun x => !ltInt d[a]! x) d j i) (scanDown (fun x => ltInt d[a]! x) d (scanUp (fun x => !ltInt d[a]! x) d j i) j)) (by omega)
      omega
theorem partitionEqual_rng (d : Array Int) (a b pv : Nat) (h : a < b) : a < (partitionEqual ltInt d a b pv).1 ∧ (partitionEqual ltInt d a b pv).1 ≤ b := by
  have := partEqLoop_rng a _ (a + 1) (b - 1) (swp d a pv) (Nat.le_refl _)
  unfold partitionEqual
  omega

/-- What follows the test of the pivot. -/
def pdqE (d3 : Array Int) (a b pivot limit : Nat) (wb wp : Bool) : Array Int :=
  if a > 0 && !ltInt d3[a - 1]! d3[pivot]! then
    pdq ltInt (partitionEqual ltInt d3 a b pivot).2 (partitionEqual ltInt d3 a b pivot).1 b limit wb wp
  else
    if (partition ltInt d3 a b pivot).1 - a < b - (partition ltInt d3 a b pivot).1 then
      pdq ltInt (pdq ltInt (partition ltInt d3 a b pivot).2.2 a (partition ltInt d3 a b pivot).1 limit true true) ((partition ltInt d3 a b pivot).1 + 1) b limit (decide ((partition ltInt d3 a b pivot).1 - a ≥ (b - a) / 8)) (partition ltInt d3 a b pivot).2.1
    else
      pdq ltInt (pdq ltInt (partition ltInt d3 a b pivot).2.2 ((partition ltInt d3 a b pivot).1 + 1) b limit true true) a (partition ltInt d3 a b pivot).1 limit (decide (b - (partition ltInt d3 a b pivot).1 ≥ (b - a) / 8)) (partition ltInt d3 a b pivot).2.1
/-- What follows the choice of the pivot. -/
def pdqD (d2 : Array Int) (a b pivot limit : Nat) (inc wb wp : Bool) : Array Int :=
  if wb && wp && inc then
    if (partialInsertionSort ltInt d2 a b).2 then (partialInsertionSort ltInt d2 a b).1 else pdqE (partialInsertionSort ltInt d2 a b).1 a b pivot limit wb wp
  else pdqE d2 a b pivot limit wb wp
/-- What follows the breaking of patterns. -/
def pdqC (d1 : Array Int) (a b limit : Nat) (wb wp : Bool) : Array Int :=
  if (choosePivot ltInt d1 a b).2 = .decreasing then pdqD (reverseRange d1 a b) a b ((b - 1) - ((choosePivot ltInt d1 a b).1 - a)) limit true wb wp
  else pdqD d1 a b (choosePivot ltInt d1 a b).1 limit (decide ((choosePivot ltInt d1 a b).2 = .increasing)) wb wp

theorem size_shiftUp (b : Nat) : ∀ (m j : Nat) (d : Array Int), b - j ≤ m → (shiftUp ltInt b j d).size = d.size := by
  intro m
  induction m with
  | zero => intro j d h; rw [shiftUp, if_neg (by omega)]
  | succ m ih =>
    intro j d h
    rw [shiftUp]
    split
    · split
      · rfl
      · rw [ih _ _ (by omega), size_swp]
    · rfl
theorem size_partialIns (a b : Nat) : ∀ (s i : Nat) (d : Array Int), (partialIns ltInt a b s i d).1.size = d.size := by
  intro s
  induction s with
  | zero => intro i d; rfl
  | succ s ih =>
    intro i d
    rw [partialIns]
    simp only
    split
    · rfl
    · split
      · rfl
      · rw [ih]
        split
        · rw [size_shiftUp b b _ _ (Nat.sub_le _ _)]
          split
          · rw [size_shiftDown, size_swp]
          · rw [size_swp]
        · split
          · rw [size_shiftDown, size_swp]
          · rw [size_swp]
theorem size_partialInsertionSort (a b : Nat) (d : Array Int) : (partialInsertionSort ltInt d a b).1.size = d.size := size_partialIns a b 5 (a + 1) d
theorem size_breakPatterns (a b : Nat) (d : Array Int) : (breakPatterns d a b).size = d.size := by
  by_cases h : 8 ≤ b - a
  · rw [brk_eq d a b _ rfl h, brk_size]
  · unfold breakPatterns
    simp only [ge_iff_le, if_neg h]
theorem size_partEqLoop (a : Nat) : ∀ m i j (d : Array Int), j + 1 - i ≤ m → (partEqLoop ltInt a i j d).2.size = d.size := by
  intro m
  induction m with
  | zero =>
    intro i j d h
    have h1 := scanUp_rng (fun x => !ltInt d[a]! x) d j _ i (Nat.le_refl _)
    have h2 := scanDown_rng (fun x => ltInt d[a]! x) d (scanUp (fun x => !ltInt d[a]! x) d j i) j
    rw [partEqLoop_eq a i j d _ _ rfl rfl h1.1 h2, if_pos (by omega)]
  | succ m ih =>
    intro i j d h
    have h1 := scanUp_rng (fun x => !ltInt d[a]! x) d j _ i (Nat.le_refl _)
    have h2 := scanDown_rng (fun x => ltInt d[a]! x) d (scanUp (fun x => !ltInt d[a]! x) d j i) j
    rw [partEqLoop_eq a i j d _ _ rfl rfl h1.1 h2]
    split
    · rfl
    · rw [ih _ _ _ (by omega), size_swp]
theorem size_partitionEqual (a b pv : Nat) (d : Array Int) : (partitionEqual ltInt d a b pv).2.size = d.size := by
  unfold partitionEqual
  rw [size_partEqLoop a _ _ _ _ (Nat.le_refl _), size_swp]

theorem pdqE_eq (d3 : Array Int) (a b pivot limit : Nat) (wb wp : Bool) (h1 : a ≤ pivot) (h2 : pivot < b) (h3 : b ≤ d3.size) :
    (if a > 0 && !ltInt d3[a - 1]! d3[pivot]! then
      match partitionEqual ltInt d3 a b pivot with
      | (mid, d4) => if _h : a < mid ∧ mid ≤ b then pdq ltInt d4 mid b limit wb wp else d4
    else
      match partition ltInt d3 a b pivot with
      | (mid, alreadyPartitioned, d4) =>
        if _h : a ≤ mid ∧ mid < b then
          if mid - a < b - mid then
            pdq ltInt (pdq ltInt d4 a mid limit true true) (mid + 1) b limit (decide (mid - a ≥ (b - a) / 8)) alreadyPartitioned
          else
            pdq ltInt (pdq ltInt d4 (mid + 1) b limit true true) a mid limit (decide (b - mid ≥ (b - a) / 8)) alreadyPartitioned
        else d4) = pdqE d3 a b pivot limit wb wp := by
  unfold pdqE
  have hE := partitionEqual_rng d3 a b pivot (by omega)
  have hP := partition_holds ltInt swo_ltInt d3 a b pivot h1 h2 h3
  have hP2 := hP.2.1
  have hP1 := hP.1
  clear hP
  split
  · generalize partitionEqual ltInt d3 a b pivot = r at hE ⊢
    obtain ⟨mid, d4⟩ := r
    exact dif_pos hE
  · generalize partition ltInt d3 a b pivot = r at hP1 hP2 ⊢
    obtain ⟨mid, al, d4⟩ := r
    exact dif_pos ⟨hP1, hP2⟩

theorem pdq_step (d : Array Int) (a b limit : Nat) (wb wp : Bool) (hb : b ≤ d.size) :
    pdq ltInt d a b limit wb wp = if b - a ≤ 12 then insertionSort ltInt d a b else if limit = 0 then heapSort ltInt d a b else pdqC (if !wb then breakPatterns d a b else d) a b (if !wb then limit - 1 else limit) wb wp := by
  rw [pdq]
  split
  · rfl
  · rename_i h12
    split
    · rfl
    · simp only
      obtain ⟨d1, hd1⟩ : ∃ d1, d1 = if !wb then breakPatterns d a b else d := ⟨_, rfl⟩
      have hs1 : d1.size = d.size := by rw [hd1]; split <;> simp [size_breakPatterns]
      simp only [← hd1]
      have hcp := choosePivot_holds ltInt d1 a b (by omega)
      unfold pdqC
      by_cases hdec : (choosePivot ltInt d1 a b).2 = .decreasing
      · have hs2 : (reverseRange d1 a b).size = d.size := by rw [(reverseRange_holds d1 a b (by omega) (by omega)).1, hs1]
        simp only [if_pos hdec]
        unfold pdqD
        by_cases hc : (wb && wp) = true
        · simp only [hc, Bool.true_and, decide_true, if_true]
          split
          · rfl
          · exact pdqE_eq _ a b _ _ wb wp (by omega) (by omega) (by rw [size_partialInsertionSort]; omega)
        · simp only [Bool.not_eq_true] at hc
          simp only [hc, Bool.false_and, Bool.false_eq_true, if_false]
          exact pdqE_eq _ a b _ _ wb wp (by omega) (by omega) (by omega)
      · simp only [if_neg hdec]
        unfold pdqD
        by_cases hc : (wb && wp && decide ((choosePivot ltInt d1 a b).2 = .increasing)) = true
        · simp only [hc, if_true]
          split
          · rfl
          · exact pdqE_eq _ a b _ _ wb wp (by omega) (by omega) (by rw [size_partialInsertionSort]; omega)
        · simp only [Bool.not_eq_true] at hc
          simp only [hc, Bool.false_eq_true, if_false]
          exact pdqE_eq _ a b _ _ wb wp (by omega) (by omega) (by omega)
end Go.Proofs.Ybulkbaha
