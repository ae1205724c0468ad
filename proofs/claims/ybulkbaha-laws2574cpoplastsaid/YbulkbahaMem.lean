import Derived.WalkKit
import Derived.Laws.CopyOwn
namespace Go.Proofs.Ybulkbaha
open Go.RowKit

/-- Block g is a row of the call's own, element type t, the cells ps, none of them frozen. -/
def Row (w : World) (g : Nat) (t : TypeId) (ps : List Value) : Prop := w.heap[g]? = some (.cells ps.toArray t (0, 0))

theorem Row.lt {w : World} {g : Nat} {t : TypeId} {ps : List Value} (h : Row w g t ps) : g < w.heap.size := lt_of_block h
theorem Row.cell {w : World} {g : Nat} {t : TypeId} {ps : List Value} (h : Row w g t ps) (j : Nat) : w.cell? ⟨g, j, none⟩ = ps[j]? := by
  have h' : w.heap[g]? = some (.cells ps.toArray t (0, 0)) := h
  simp [World.cell?, h']
theorem Row.free {w : World} {g : Nat} {t : TypeId} {ps : List Value} (h : Row w g t ps) (j : Nat) : w.frozen? ⟨g, j, none⟩ = false := by
  have h' : w.heap[g]? = some (.cells ps.toArray t (0, 0)) := h
  simp [World.frozen?, h']
theorem Row.set {w : World} {g : Nat} {t : TypeId} {ps : List Value} (h : Row w g t ps) (j : Nat) (u : Value) : Row (w.setCell ⟨g, j, none⟩ u) g t (ps.set j u) := by
  have h' := heap_setCell_same w g j ps.toArray t u h
  unfold Row
  rw [h']; simp
theorem Row.other {w : World} {g : Nat} {t : TypeId} {ps : List Value} (h : Row w g t ps) {a : Addr} (ha : g ≠ a.block) (u : Value) : Row (w.setCell a u) g t ps :=
  (Below.heap_setCell w a u g ha).trans h
theorem Row.alloc {w : World} {g : Nat} {t : TypeId} {ps : List Value} (h : Row w g t ps) (o : Obj) : Row (w.alloc o) g t ps :=
  (Below.heap_alloc w o g h.lt).trans h
theorem Row.drew {w : World} {g : Nat} {t : TypeId} {ps : List Value} (h : Row w g t ps) : Row w.drew g t ps := h
theorem Row.below {w w' : World} {B g : Nat} {t : TypeId} {ps : List Value} (h : Row w g t ps) (hb : Below B w w') (hg : g < B) : Row w' g t ps :=
  (hb.block g hg).trans h
theorem Row.grown {w w' : World} {g : Nat} {t : TypeId} {ps : List Value} {r : Option Nat} (h : Row w g t ps) (hg : w.grownBy w' r) (hr : r ≠ some g) : Row w' g t ps :=
  (hg.block g h.lt (fun e => hr e.symm)).trans h
theorem Row.ofOwns {w : World} {base g n : Nat} {t : TypeId} {xs : List Value} (h : w.ownsRow base t 1 (.slice (some ⟨g, 0, none⟩) n n) n xs) : Row w g t xs := by
  rcases h.2 with ⟨h', _⟩ | ⟨g', cap', cur, h', hb, hg, hnc, hcm, hcs, htake⟩
  · simp at h'
  · simp only [Value.slice.injEq, Option.some.injEq, Addr.mk.injEq, and_true, true_and] at h'
    obtain ⟨rfl, rfl⟩ := h'
    rw [List.take_of_length_le (by simp [hcs])] at htake
    unfold Row
    rw [hg, ← htake]
/-- 'copy(dst, src)': as many cells as dst's whole row has go over. -/
theorem wpList_copy_whole {P : Program} {w : World} {ops : Array Oper} {rest : List Oper} {o : Oper} {a : Act} {Q : Exit → Act → World → Prop} (hgd : o.guard = none) (d s : Operand) (dT sT : TypeId)
    (ho : o.op = .call { callee := .builtin .copy, args := #[d, s], argTypes := #[dT, sT] }) (elem : TypeId) (hu : P.underlying dT = some (.slice elem)) (hsz : (P.info? elem).map (·.size) = some 1)
    (g n : Nat) (ad : Addr) (sCap : Nat) (hd : a.eval d = .slice (some ⟨g, 0, none⟩) n n) (hs : a.eval s = .slice (some ad) n sCap)
    (cur cs : List Value) (t : TypeId) (hg : Row w g t cur) (hc : cur.length = n) (hn : cs.length = n)
    (hsrc : ∀ j v, cs[j]? = some v → w.cell? (ad.add j) = some v) (h1 : ∀ v ∈ cs, v.oneCell' = true)
    (h : ∀ w', Row w' g t cs → w.grownBy w' (some g) → w'.heap.size = w.heap.size → wpList P ops Q rest (a.put o.dst (goInt n)) w') : wpList P ops Q (o :: rest) a w := by
  refine wpList_copy_own hgd d s dT sT ho elem hu hsz g 0 n n ad n sCap hd hs cur.toArray t hg cs (by simp [hn]) hsrc (by simp [hn, hc]) h1 ?_
  rw [hn]
  refine h _ ?_ ⟨by simp, by simp, by simp, by simp, fun k _ hk => setRow_other _ _ _ _ (fun e => hk (by rw [e]))⟩ (by simp)
  have := setRow_heap w g cur.toArray cs.toArray t (0, 0) hg
  simp [List.drop_of_length_le (show cur.length ≤ n by omega)]
  exact this
theorem Row.new (w : World) (t : TypeId) (ps : List Value) : Row (w.alloc (.cells ps.toArray t)) w.heap.size t ps := heap_alloc_new w _
end Go.Proofs.Ybulkbaha
