import Derived.Test.YbulkbaicDoorRows
import Derived.Test.YbulkbaicDoorTie
import Derived.Test.YbulkbaicDoorCards
import Derived.Test.YbulkbaicDoorWalk
import Derived.WalkKit
import Derived.ProofKit
import Derived.OpenShut
import Derived.ShutString
import Derived.ChangeOld
import Derived.ChangeVars
import Derived.Below
import Derived.LaidLaws
import Derived.LaidHandle
import Derived.SevenTiedAt
namespace Go.Proofs.YbulkbaicDoor.lawS2576AStandIn
open Go.Proofs.YbulkbaicDoor
open Go.ChangeShapes Go.WideShapes Go.ChangeAt Go.RowKit
open Go.ChangeMaps (open_string shut_string)

theorem own : ownKnob Ybad.prog.godebug = none := by kernel_rfl

/-- A world that meets the condition: io.Discard's cell laid. -/
def layDiscard (w : World) : World :=
  { w with heap := w.heap.modify 0 fun
      | .cells _ t frozen => .cells #[.iface 88 (.agg #[])] t frozen
      | o => o }
theorem laid_met (os : Os) (args : Array Value) : laidMetH Ybad.prog Rows.lawS2576AStandInRow.laid ((layDiscard (World.holding Ybad.prog os ⟨#[], #[], []⟩)).forCall (fun _ _ => 0) ⟨#[], args, []⟩).memory :=
  laidMetH_of_parts (laidMet_of_run (ps := [.cell 0 0]) 8 (by kernel_rfl) (by kernel_rfl) (by kernel_rfl)) (by kernel_rfl)

set_option maxRecDepth 100000 in
theorem lifted (os : Os) (started : os.Started) (H : Type) (enc : TypeId × Value → H) :
    ReturnsInHanded {} Ybad.checked os 3 .any (fun w args => (Rows.lawS2576AStandInSpec.pre enc Ybad.prog Ybad.f3 [] false w args ∧ laidMetH Ybad.prog Rows.lawS2576AStandInRow.laid w) ∧ sizedMet enc Ybad.prog Ybad.f3 (OpenSpec.ofChange Rows.lawS2576AStandInSpec) false w args)
      (Rows.lawS2576AStandInSpec.post enc Ybad.prog Ybad.f3 false true false false) := by
  refine returnsInHanded_of_change_and (C := Ybad.checked) (X := fun w _ => laidMetH Ybad.prog Rows.lawS2576AStandInRow.laid w) (fun _ _ _ hh h => h.of_heap hh) own started (by kernel_rfl) Ybad.func3
    (ChangeSpec.witness_at (enc := enc) (C := Ybad.checked) (os := os) (X := fun w _ => laidMetH Ybad.prog Rows.lawS2576AStandInRow.laid w) false (layDiscard (World.holding Ybad.prog os ⟨#[], #[], []⟩)) #[.string ⟨#[]⟩, .int .i64 0] 8 rfl (by kernel_rfl) (by kernel_rfl) (by kernel_rfl) (by kernel_rfl) (by kernel_rfl) (laid_met os _)) ?_
  intro W base args ds gs before hval0 hW _ _ _ _
  have hval : ∀ (j : Nat) t v, Ybad.f3.params[j]? = some t → args[j]? = some v → Value.okWide Ybad.prog W .any base t v := hval0
  have hW' := hW
  obtain ⟨p, q, hA0, hV, rfl, hfz, hnd⟩ := hW
  have hA : DataW.TrodAll enc Ybad.prog W 0 (fun _ => true) true Ybad.f3.params.toList args.toList ds p := hA0
  rw [Ybad.params3] at hA hval
  obtain ⟨v0, vs0, d0, ds0, p0, q0, hargs, rfl, rfl, h0, r0⟩ := trodAll_cons hA
  obtain ⟨v1, vs1, d1, ds1, p1, q1, rfl, rfl, rfl, h1, r1⟩ := trodAll_cons r0
  obtain ⟨rfl, rfl, rfl⟩ := trodAll_nil r1
  obtain rfl : args = #[v0, v1] := by cases args; simp_all
  obtain ⟨rfl, rfl⟩ := trodVars_none hV
  obtain ⟨s, rfl, rfl, rfl, hs⟩ := open_string Ybad.underlying9 (hval 0 9 v0 rfl rfl) h0
  obtain ⟨n, rfl, rfl, rfl, wn⟩ := open_int Ybad.underlying3 (hval 1 3 v1 rfl rfl) h1
  clear hA0 hval0
  refine (standIn_any s n W).mono fun e W' ⟨he, bel⟩ => ?_
  subst he
  exact ⟨_, rfl, _, _, _, [], _, [], hW', trodAll_mk1 (shut_bool Ybad.underlying4 _), (trodAll_cons_mk (shut_string Ybad.underlying9 hs) (trodAll_cons_mk (shut_int Ybad.underlying3 wn) trodAll_mk0)), rfl, bel.frame _, fun h => by cases h⟩

theorem over : Rows.LawS2576AStandInSaid :=
  OpenClaim.holds_of_wide 3 Ybad.f3 rfl rfl rfl rfl rfl rfl rfl ⟨rfl, rfl, rfl, rfl, rfl⟩ rfl rfl rfl rfl rfl (by kernel_rfl) Ybad.func3 (by kernel_rfl)
    (of_decide_eq_true (by kernel_rfl)) (by unfold Func.isWrapper; first | (rw [if_pos (by decide +kernel)]; kernel_rfl) | (rw [if_neg (by decide +kernel)]; exact ⟨rfl, rfl⟩))
    (fun os started H enc _ => lifted os started H enc)

theorem proved : Rows.LawS2576AStandInCardSaid :=
  Claim7.holds_tied_plain_at .later [] [.wider] true (true, "70fee436a852be529386166cb674c764f3c6e5e53854c2093669b466984e2545") true
    over (fun _ h => by cases h) (by kernel_rfl) (fun _ h => by cases h) lawS2576AStandIn_row_tie rfl ⟨rfl, rfl⟩ (by kernel_rfl) rfl
    (fun f fn hf hfn => by
      obtain rfl : f = 3 := Option.some.inj ((show Ybad.prog.funcNamed Rows.lawS2576AStandInRow.func = some 3 by kernel_rfl).symm.trans hf) |>.symm
      obtain rfl : fn = Ybad.f3 := (Option.some.inj (Ybad.func3.symm.trans hfn)).symm
      exact ⟨by kernel_rfl, fun j t ht => by
        rw [Ybad.params3] at ht
        rcases j with _ | _ | j
        · obtain rfl : t = 9 := by simpa using ht.symm
          exact (show Ybad.prog.wantsStandIn 9 = false by kernel_rfl)
        · obtain rfl : t = 3 := by simpa using ht.symm
          exact (show Ybad.prog.wantsStandIn 3 = false by kernel_rfl)
        · simp at ht⟩)
    (by kernel_rfl)
end Go.Proofs.YbulkbaicDoor.lawS2576AStandIn
