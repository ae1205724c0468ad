import Derived.Test.YbulkbahaProg
import Derived.Test.YbulkbahaMem
import Derived.Test.YbulkbahaPop
import Derived.WalkKit
import Derived.WalkSpells
import Derived.WalkLawsBesides
import Derived.Laws.CopyOwn
import Derived.Deep.QuietTactic
import Derived.BigQuiet
import Derived.LaidEqlPtr
import Derived.Laws.Pointers
namespace Go.Proofs.Ybulkbaha
open Go.RowKit

theorem assert33 (p : Option Addr) (w : World) : (Instr.typeAssert (.iface 33 (.pointer p)) 20 33 true).run Yba.prog w = .ok (.tuple #[.pointer p, .bool true]) w := by kernel_rfl
theorem neq33 (p : Option Addr) (w : World) : (binOp .neq 33 (.pointer p) (.pointer p)).run Yba.prog w = .ok (.bool false) w := by
  obtain ⟨j, hj⟩ : ∃ j, Yba.prog.info? 37 = some j := Option.isSome_iff_exists.1 (by kernel_rfl)
  have h : ∀ d : Nat, (Op.equalIn (d + 1) 33 (.pointer p) (.pointer p)).run Yba.prog w = .ok true w := fun d => by
    cases p <;> simp [Op.equalIn, run_underlying Yba.underlying33, sizeOf, typeInfo, hj, run_sameAddr_same]
  simp only [binOp]
  simp [Op.equal, Op.maxDepth, h 9999]
theorem Yba.info33 : (Yba.prog.info? 33).map (fun i => (i.zero, i.size, i.bytes)) = some (some (.pointer none), 1, 8) := by kernel_rfl

set_option maxHeartbeats 400000 in
theorem popLast_zero (a : Option Addr) (cap : Nat) (w : World) :
    Calls Yba.prog 5 #[.slice a 0 cap] w fun e w' => e = .returned (.bool true) ∧ Below w.heap.size w w' := by
  go_enter Yba.func5, Yba.ntmps5
  go_wp2
  go_ret
  exact ⟨rfl, Below.refl _ _⟩

set_option maxHeartbeats 400000 in
theorem popLast_great (a : Option Addr) (n cap : Nat) (hn : 1024 < n) (hm : n ≤ maxLen) (w : World) :
    Calls Yba.prog 5 #[.slice a n cap] w fun e w' => e = .returned (.bool true) ∧ Below w.heap.size w w' := by
  unfold maxLen at hm
  have h0 : ((n : Int) == 0) = false := by simp; omega
  have h1 : (1024 : Int) < n := by omega
  go_enter Yba.func5, Yba.ntmps5
  go_wp2
  go_ret
  exact ⟨rfl, Below.refl _ _⟩

set_option maxRecDepth 100000 in
set_option maxHeartbeats 1000000 in
theorem popLast_mid (b off m cap : Nat) (zs : List Int) (w : World) (hn2 : m + 1 ≤ 1024)
    (hc : ∀ j, j < m + 1 → w.cell? ⟨b, off + j, none⟩ = some (.int .u64 (zs.getD j 0))) (hb : b < w.heap.size) :
    Calls Yba.prog 5 #[.slice (some ⟨b, off, none⟩) (m + 1) cap] w fun e w' => e = .returned (.bool true) ∧ Below w.heap.size w w' := by
  obtain ⟨i0, hi, hz0, hz1, hz2⟩ := info_parts Yba.info33
  have h0 : ((m : Int) + 1 == 0) = false := by simp; omega
  have h1 : decide ((1024 : Int) < (m : Int) + 1) = false := by simp; omega
  go_enter Yba.func5, Yba.ntmps5
  go_wp2_with (at_make; refine wpList_make_full _ rfl _ _ 32 rfl w.heap.size 33 i0 (.pointer none) 1 Yba.underlying32 hi hz0 hz1 _ _ _ _ (m + 1) rfl rfl (by omega) (by omega) (by rw [hz2]; omega) (by unfold maxLen; omega) (Nat.le_refl _) ?_; intro w1 hown1 hg1)
  have hr1 : Row w1 w.heap.size 33 (List.replicate (m + 1) (.pointer none)) := by
    have := Row.ofOwns hown1
    simpa [toList_madeCells_one, Value.cells] using this
  have hb1 : Below w.heap.size w w1 := (Below.refl _ _).grown hg1 (Nat.le_refl _) (by simp)
  clear hown1 hg1
  go_loopw [5] (fun i wr => ∃ k : Nat, k ≤ m + 1 ∧ i = .int .i64 k ∧ Below w.heap.size w wr ∧ ∃ ps : List Value, ps.length = m + 1 ∧ (∀ v ∈ ps, ∃ p, v = .pointer p) ∧ Row wr w.heap.size 33 ps) (fun i _ => m + 1 - (intOf i).toNat)
  case atStart => exact ⟨0, Nat.zero_le _, rfl, hb1, _, by simp, fun v hv => ⟨none, (List.mem_replicate.1 hv).2⟩, hr1⟩
  case round =>
    obtain ⟨k, hk, rfl, hbr, ps, hpl, hpp, hrow⟩ := hrel
    have hz : w.heap.size < wr.heap.size := hrow.lt
    by_cases hlt : k < m + 1
    · have hcx : wr.cell? ⟨b, off + k, none⟩ = some (.int .u64 (zs.getD k 0)) := (hbr.cell (by exact hb)).trans (hc k hlt)
      obtain ⟨p, hp⟩ := hpp _ (List.getElem_mem (show k < ps.length by omega))
      have hcy : wr.cell? ⟨w.heap.size, k, none⟩ = some (.pointer p) := by rw [hrow.cell, ← hp]; simp [show k < ps.length by omega]
      have hfy : wr.frozen? ⟨w.heap.size, k, none⟩ = false := hrow.free k
      clear hp
      go_wp2
      go_roundw
      case rel =>
        exact ⟨k + 1, by omega, by go_num, (hbr.setCell (Nat.le_refl _) _).alloc (by simp; omega) _, _, by simp [hpl], fun v hv => by
          rcases List.mem_or_eq_of_mem_set hv with h | h
          · exact hpp v h
          · exact ⟨_, h⟩, (hrow.set k _).alloc _⟩
      case measure => simp [intOf]; omega
    · have hkn : k = m + 1 := by omega
      subst hkn
      obtain ⟨p, hp⟩ := hpp _ (List.getElem_mem (show m < ps.length by omega))
      have HP : Hid (ps[m]? = some (.pointer p)) := by rw [← hp]; exact List.getElem?_eq_getElem (by omega)
      have HL : Hid (ps.length = m + 1) := hpl
      clear hc hlt hk hp hpl h1 hr1 hb1
      go_wp2_with (first
        | (at_make; refine wpList_make_full _ rfl _ _ 38 rfl w.heap.size 33 i0 (.pointer none) 1 Yba.underlying38 hi hz0 hz1 _ _ _ _ (m + 1) rfl rfl (by omega) (by omega) (by rw [hz2]; omega) (by unfold maxLen; omega) (by omega) ?_; intro w2 hown2 hg2)
        | (refine wpList_copy_whole rfl (.tmp 38) (.tmp 39) 38 32 rfl 33 Yba.underlying38 (by rw [hi]; simp [hz1]) wr.heap.size (m + 1) ⟨w.heap.size, 0, none⟩ (m + 1) rfl rfl (List.replicate (m + 1) (.pointer none)) ps 33 ?hg ?hc HL.out ?hsrc ?h1 ?_))
      case hg =>
        have := Row.ofOwns hown2
        simpa [toList_madeCells_one, Value.cells] using this.alloc _
      case hc => simp
      case hsrc =>
        intro j v hv
        rw [← hv]
        have := ((hrow.grown hg2 (by simp)).alloc (.cells #[.slice (some ⟨wr.heap.size, 0, none⟩) (m + 1) (m + 1)] 38)).cell j
        rw [Go.WideShapes.add_plain, Nat.zero_add]; exact this
      case h1 => intro v hv; obtain ⟨p, rfl⟩ := hpp v hv; rfl
      intro w3 hr3 hg3 hs3
      have hz2' : wr.heap.size < w2.heap.size := (Row.ofOwns hown2).lt
      have hq3 : Row w3 w2.heap.size 38 [.slice (some ⟨wr.heap.size, 0, none⟩) (m + 1) (m + 1)] := (Row.new w2 38 [.slice (some ⟨wr.heap.size, 0, none⟩) (m + 1) (m + 1)]).grown hg3 (by simp; omega)
      have hv3 : Row w3 w.heap.size 33 ps := ((hrow.grown hg2 (by simp)).alloc _).grown hg3 (by simp; omega)
      have hb3 : Below w.heap.size w w3 := ((hbr.grown hg2 (by omega) (by simp)).alloc (by omega) _).grown hg3 (by simp; omega) (by intro k hk; simp at hk; omega)
      have hqc : w3.cell? ⟨w2.heap.size, 0, none⟩ = some (.slice (some ⟨wr.heap.size, 0, none⟩) (m + 1) (m + 1)) := hq3.cell 0
      clear hown2 hg2 hg3 hs3 hrow hbr
      go_wp2_with fail
      refine (pop_any w3 w2.heap.size wr.heap.size m (m + 1) p (by omega) (by omega) (by omega) hqc (hq3.free 0) ((hr3.cell m).trans HP.out) (hr3.free m)).mono ?_
      rintro e w4 ⟨rfl, hw4⟩
      have hr4 : Row w4 wr.heap.size 33 (ps.set m (.pointer none)) := by rw [hw4]; exact (hr3.set m _).other (by simp; omega) _
      have hq4 : Row w4 w2.heap.size 38 [.slice (some ⟨wr.heap.size, 0, none⟩) m (m + 1)] := by rw [hw4]; exact (hq3.other (by simp; omega) _).set 0 _
      have hv4 : Row w4 w.heap.size 33 ps := by rw [hw4]; exact (hv3.other (by simp; omega) _).other (by simp; omega) _
      have hb4 : Below w.heap.size w w4 := by rw [hw4]; exact (hb3.setCell (by simp; omega) _).setCell (by simp; omega) _
      have hqc4 : w4.cell? ⟨w2.heap.size, 0, none⟩ = some (.slice (some ⟨wr.heap.size, 0, none⟩) m (m + 1)) := hq4.cell 0
      have hvc4 : w4.cell? ⟨w.heap.size, m, none⟩ = some (.pointer p) := (hv4.cell m).trans HP.out
      clear hw4 hqc hr3 hq3 hv3 hb3
      have hta := assert33 p
      have hneq := neq33 p
      go_wp2
      clear hqc4 hvc4 hta hneq
      generalize wr.heap.size = g at *
      generalize w2.heap.size = qb at *
      go_loopw [11] (fun i w5 => ∃ k : Nat, k ≤ m ∧ i = .int .i64 k ∧ Row w5 g 33 (ps.set m (.pointer none)) ∧ Row w5 qb 38 [.slice (some ⟨g, 0, none⟩) m (m + 1)] ∧ Row w5 w.heap.size 33 ps ∧ Below w.heap.size w w5) (fun i _ => m - (intOf i).toNat)
      case atStart => exact ⟨0, Nat.zero_le _, rfl, hr4, hq4, hv4, hb4⟩
      case round =>
        obtain ⟨k, hk, rfl, hr5, hq5, hv5, hb5⟩ := hrel
        have hqc5 : wr.cell? ⟨qb, 0, none⟩ = some (.slice (some ⟨g, 0, none⟩) m (m + 1)) := hq5.cell 0
        by_cases hlt : k < m
        · obtain ⟨p', hp'⟩ := hpp _ (List.getElem_mem (show k < ps.length by have := HL.out; omega))
          have hvc5 : wr.cell? ⟨w.heap.size, k, none⟩ = some (.pointer p') := by rw [hv5.cell, ← hp']; exact List.getElem?_eq_getElem _
          have hrc5 : wr.cell? ⟨g, k, none⟩ = some (.pointer p') := by
            rw [hr5.cell, List.getElem?_set_ne (by omega), ← hp']; exact List.getElem?_eq_getElem _
          have hneq := neq33 p'
          have hlt' : (k : Int) < (m : Int) := by omega
          clear hp'
          go_wp2
          go_quiet (fail)
          go_wp2
          go_roundw
          case rel => exact ⟨k + 1, by omega, by go_num, hr5, hq5, hv5, below_drewN hb5 _⟩
          case measure => simp [intOf]; omega
        · have hkm : k = m := by omega
          subst hkm
          have hrc5 : wr.cell? ⟨g, k, none⟩ = some (.pointer none) := by
            rw [hr5.cell, List.getElem?_set_self (by have := HL.out; omega)]
          clear hlt hk
          go_wp2
          go_ret
          exact ⟨rfl, hb5⟩
end Go.Proofs.Ybulkbaha
