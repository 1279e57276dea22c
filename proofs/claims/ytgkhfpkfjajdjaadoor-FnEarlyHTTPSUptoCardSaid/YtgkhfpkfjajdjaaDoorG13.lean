/- Closed facts of the program that every row of this seat asks for, each once. -/
import Derived.Test.YtgkhfpkfjajdjaaDoorG12
set_option linter.unusedVariables false
set_option linter.unusedSimpArgs false
namespace Go.Proofs.YtgkhfpkfjajdjaaDoor
open Go.RowKit Go.ChangeShapes Go.WideShapes Go.ChangeAt
set_option maxRecDepth 100000
set_option maxHeartbeats 1000000

theorem prog_enter : Tryd.pinned.checked.prog.mayEnter = true := by kernel_rfl
theorem prog_lifts : Tryd.pinned.checked.prog.liftsFinal = Rows.fnEarlyHTTPSRow.lifted := by kernel_rfl
theorem prog_make : Tryd.pinned.checked.prog.make = some Rows.fnEarlyHTTPSRow.make := by kernel_rfl
theorem prog_laid : laidOutB Tryd.pinned.checked.prog = true := by kernel_rfl
theorem prog_maps : mapsRowed Tryd.pinned.checked.prog = true := by kernel_rfl
theorem prog_tie : namedTie Tryd.pinned.checked.prog Rows.fnEarlyHTTPSRow.named Rows.fnEarlyHTTPSSpec.vars = true := by kernel_rfl
theorem prog_read : (Rows.fnEarlyHTTPSSpec.vars.all (Program.varReadable Tryd.pinned.checked.prog ·)) = true := by kernel_rfl
theorem prog_keys : Tryd.pinned.checked.prog.plainKeys = Rows.fnEarlyHTTPSRow.plainKeys := by kernel_rfl
theorem prog_heard : Tryd.pinned.checked.prog.stopsHeard = true := by kernel_rfl
end Go.Proofs.YtgkhfpkfjajdjaaDoor
