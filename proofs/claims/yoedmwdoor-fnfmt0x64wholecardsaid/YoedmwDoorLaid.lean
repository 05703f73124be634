/-
  WHAT THE LISTED VARIABLES GIVE THE WALKS, for both rows of this seat; the witness's world meets them.
-/
import Derived.Test.YoedmwDoorRows
import Derived.ProofKit
import Derived.WalkKit
import Derived.LaidMore
import Derived.OpenShut
import Derived.OpenVars
import Derived.Lay
import Derived.Stop.Joined
namespace Go.Proofs.YoedmwDoor
open Go.ChangeShapes Go.WideShapes Go.ChangeAt Go.RowKit

theorem own : ownKnob Edmg.prog.godebug = none := by kernel_rfl
theorem laidOut : laidOutB Edmg.prog = true := by kernel_rfl
theorem gErr : Edmg.prog.globalNamed (Rows.fnFmt0x64RoundTripSpec.vars.getD 1 "") = some 1 := by kernel_rfl
theorem gMax : Edmg.prog.globalNamed (Rows.fnFmt0x64RoundTripSpec.vars.getD 0 "") = some 0 := by kernel_rfl
theorem tMax : (Edmg.prog.globals[0]?).map (·.type) = some 3 := by kernel_rfl

/-- The two listed variables, as both rows list them. -/
def laid2 : List (String × DataW Unit) := Rows.fnFmt0x64RoundTripRow.laid

theorem of_laid {W : World} (h : laidMetH Edmg.prog laid2 W) : 2 ≤ W.heap.size ∧ W.cell? ⟨0, 0, none⟩ = some (.int .i64 2147483647) := by
  rw [MakeChecks.laidMetH_plain _ _ _ (by kernel_rfl)] at h
  obtain ⟨ps, ⟨g0, t0, cs0, f0, p0, q0, hg0, ht0, hv0, hd0, ⟨g1, t1, cs1, f1, p1, q1, hg1, ht1, hv1, hd1, _, _⟩, _⟩, _, _⟩ := h
  obtain rfl := Option.some.inj (gErr.symm.trans hg0)
  obtain rfl := Option.some.inj (gMax.symm.trans hg1)
  obtain rfl := Option.some.inj (tMax.symm.trans ht1)
  refine ⟨?_, ?_⟩
  · unfold World.var? at hv0
    rw [hg0] at hv0
    simp only [Option.bind_some] at hv0
    cases hh : W.heap[1]? with
    | none => rw [hh] at hv0; cases hv0
    | some o => exact (Array.getElem?_eq_some_iff.1 hh).1
  · obtain ⟨k, e1, e2, _⟩ := DataW.trod_int Edmg.underlying3 hd1
    have hk : k = 2147483647 := by
      simp [Rows.laid_github_com_d5_tengo_v2_MaxStringLen] at e2
      exact e2.1.symm
    subst hk
    have := World.var?_cell hg1 hv1 0
    obtain ⟨l⟩ := cs1
    simp at e1
    subst e1
    simpa using this

set_option maxRecDepth 100000 in
theorem door_met (os : Os) (args : Array Value) : laidMetH Edmg.prog laid2 ((World.doorLaid Edmg.prog 400 os).forCall (fun _ _ => 0) ⟨#[], args, []⟩).memory :=
  laidMetH_of_parts3 (fuel := 8) (laidMet_of_run' 8 (by kernel_rfl) (by kernel_rfl)) (by kernel_rfl) (by kernel_rfl)

#print axioms door_met
end Go.Proofs.YoedmwDoor
