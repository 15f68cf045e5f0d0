/- Parts of the proof of the card: Le -/
import Derived.Test.YtkpadembffdepaaGreatDoorK5
set_option maxRecDepth 100000
set_option maxHeartbeats 4000000
set_option linter.unusedVariables false
set_option linter.unusedSimpArgs false
namespace Go.Proofs.YtkpadembffdepaaGreatDoor
open Go Go.ChangeShapes Go.WideShapes Go.ChangeAt Go.RowKit Go.Eng
theorem and2 {a b : Bool} (ha : a = true) (hb : b = true) : (a && b) = true := by rw [ha, hb]; rfl
theorem j_mapsRowed : mapsRowed Tryz.prog = true := by kernel_rfl
theorem j_stops : (Tryz.prog.stops == []) = true := by kernel_rfl
theorem j_stopKnobs : (Tryz.prog.stopKnobs == []) = true := by kernel_rfl
theorem j_plainKeys : (Rows.fnExactStoredRow.plainKeys == Tryz.prog.plainKeys) = true := by kernel_rfl
theorem j_heard : Tryz.prog.stopsHeard = true := by kernel_rfl
theorem j_enter : Tryz.prog.mayEnter = true := by kernel_rfl
theorem j_lifted : (Rows.fnExactStoredRow.lifted == Tryz.prog.liftsFinal) = true := by kernel_rfl
theorem j_make : (Tryz.prog.make == some Rows.fnExactStoredRow.make) = true := by kernel_rfl
theorem j_named : namedTie Tryz.prog Rows.fnExactStoredRow.named Rows.fnExactStoredSpec.vars = true := by kernel_rfl
theorem j_inits10 : Tryz.checked.prog.inits.idxOf? 10 = none := by kernel_rfl
end Go.Proofs.YtkpadembffdepaaGreatDoor
