/-
  Seat b3902aD: what 'laid' gives the walks; the start that meets it.
-/
import Derived.Test.YbulkcbucDoorRows
import Derived.Test.YbulkcbucDoorQb
import Derived.ProofKit
import Derived.LaidMore
import Derived.OpenVars
import Derived.OpenShut
import Derived.Lib.LaidTab
import Derived.Stop.Joined
namespace Go.Proofs.YbulkcbucDoor
open Go.ChangeShapes Go.WideShapes Go.ChangeAt Go.RowKit

abbrev laid1 : List (String × DataW Unit) := Rows.lawS3902AOneDrawRow.laid
theorem own : ownKnob Ybad.prog.godebug = none := by kernel_rfl
theorem laidOut : laidOutB Ybad.prog = true := by kernel_rfl
theorem tPw : (Ybad.prog.globals[0]?).map (·.type) = some 48 := by kernel_rfl
theorem cells48 : Ybad.prog.cellsOf 48 = 4 := by kernel_rfl
theorem cells2 : Ybad.prog.cellsOf 2 = 1 := by kernel_rfl

theorem door_met (os : Os) (args : Array Value) : laidMetH Ybad.prog laid1 ((World.doorLaid Ybad.prog 400 os).forCall (fun _ _ => 0) ⟨#[], args, []⟩).memory :=
  laidMetH_of_parts3 (fuel := 8) (laidMet_of_run' 8 (by kernel_rfl) (by kernel_rfl)) (by kernel_rfl) (by kernel_rfl)

theorem of_laid {W : World} (h : laidMetH Ybad.prog laid1 W) : Wts W := by
  rw [MakeChecks.laidMetH_plain _ _ _ (by kernel_rfl)] at h
  obtain ⟨ps, ⟨g0, t0, cs0, f0, p0, q0, hg0, ht0, hv0, hd0, _, _⟩, _, _⟩ := h
  obtain rfl : g0 = 0 := Option.some.inj (hg0.symm.trans (by kernel_rfl))
  obtain rfl := Option.some.inj (tPw.symm.trans ht0)
  have hcs := Lib.cells_of_tab (zs := [55, 15, 20, 10]) Ybad.underlying48 Ybad.underlying2 cells2 cells48 hd0
  obtain ⟨l⟩ := cs0
  simp only [List.map_cons, List.map_nil] at hcs
  subst hcs
  exact ⟨by simpa using World.var?_cell hg0 hv0 0, by simpa using World.var?_cell hg0 hv0 1, by simpa using World.var?_cell hg0 hv0 2, by simpa using World.var?_cell hg0 hv0 3⟩
end Go.Proofs.YbulkcbucDoor
