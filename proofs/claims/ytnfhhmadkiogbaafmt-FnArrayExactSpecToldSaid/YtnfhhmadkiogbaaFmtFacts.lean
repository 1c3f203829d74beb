/- Closed facts on the program, each for itself: no condition. -/
import Derived.Test.YtnfhhmadkiogbaaFmtRows
import Derived.JoinedOf
import Derived.KernelRfl
import Derived.SevenToldRow
import Derived.Stop.JoinedTold
namespace Go.Proofs.YtnfhhmadkiogbaaFmt
open Go
set_option maxRecDepth 100000 in
theorem F_laid : laidOutB Tryf.prog = true := by kernel_rfl
set_option maxRecDepth 100000 in
theorem F_maps : mapsRowed Tryf.prog = true := by kernel_rfl
set_option maxRecDepth 100000 in
theorem F_stops : Tryf.prog.stops = ["fmt.Sprintf"] := by kernel_rfl
set_option maxRecDepth 100000 in
theorem F_knobs : Tryf.prog.stopKnobs = [] := by kernel_rfl
set_option maxRecDepth 100000 in
theorem F_env : Tryf.prog.envWorded = true := by kernel_rfl
set_option maxRecDepth 100000 in
theorem F_main : Tryf.prog.mainIs = some (true, ( "73be691aa156fc98e2dd32d6c8d8c3d945fd549d4005705f6f61743e3fd396ea" : String).toList) := by kernel_rfl
set_option maxRecDepth 100000 in
theorem F_looks : true = Tryf.prog.looks [] := by kernel_rfl
set_option maxRecDepth 100000 in
theorem F_enter : Tryf.prog.mayEnter = true := by kernel_rfl
set_option maxRecDepth 100000 in
theorem F_heard : Tryf.prog.stopsHeard = true := by kernel_rfl
set_option maxRecDepth 100000 in
theorem F_keys : Rows.fnArrayExactSpecRow.plainKeys = Tryf.prog.plainKeys := by kernel_rfl
set_option maxRecDepth 100000 in
theorem F_lift : Rows.fnArrayExactSpecRow.lifted = Tryf.prog.liftsFinal := by kernel_rfl
set_option maxRecDepth 100000 in
theorem F_make : Tryf.prog.make = some Rows.fnArrayExactSpecRow.make := by kernel_rfl
set_option maxRecDepth 100000 in
theorem F_own : ownKnob Tryf.prog.godebug = none := by kernel_rfl
theorem F_quiet (os : Os) : Stop.quiet Tryf.checked.prog os := by
  intro k hk
  rw [show Tryf.checked.prog.stopKnobs = [] from F_knobs] at hk
  cases hk
end Go.Proofs.YtnfhhmadkiogbaaFmt
