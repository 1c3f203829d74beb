/- Closed facts on the program, each for itself: no condition. -/
import Derived.Test.YtfacfgecnpeceaaFmtRows
import Derived.JoinedOf
import Derived.KernelRfl
import Derived.SevenToldRow
import Derived.Stop.JoinedTold
namespace Go.Proofs.YtfacfgecnpeceaaFmt
open Go
set_option maxRecDepth 100000 in
theorem F_laid : laidOutB Tryf.prog = true := by kernel_rfl
set_option maxRecDepth 100000 in
theorem F_maps : mapsRowed Tryf.prog = true := by kernel_rfl
set_option maxRecDepth 100000 in
theorem F_stops : Tryf.prog.stops = ["fmt.Sprintf"] := by kernel_rfl
set_option maxRecDepth 100000 in
theorem F_knobs : Tryf.prog.stopKnobs = [] := by kernel_rfl
set_option maxRecDepth 100000 in
theorem F_env : Tryf.prog.envWorded = true := by kernel_rfl
set_option maxRecDepth 100000 in
theorem F_main : Tryf.prog.mainIs = some (true, ( "4e03fb327034e11e7ac613a8f17fd2f3dc568d901d46476b434c166534d2d0f9" : String).toList) := by kernel_rfl
set_option maxRecDepth 100000 in
theorem F_looks : true = Tryf.prog.looks [] := by kernel_rfl
set_option maxRecDepth 100000 in
theorem F_enter : Tryf.prog.mayEnter = true := by kernel_rfl
set_option maxRecDepth 100000 in
theorem F_heard : Tryf.prog.stopsHeard = true := by kernel_rfl
set_option maxRecDepth 100000 in
theorem F_keys : Rows.fnFixNewlinesObjectIdempotentRow.plainKeys = Tryf.prog.plainKeys := by kernel_rfl
set_option maxRecDepth 100000 in
theorem F_lift : Rows.fnFixNewlinesObjectIdempotentRow.lifted = Tryf.prog.liftsFinal := by kernel_rfl
set_option maxRecDepth 100000 in
theorem F_make : Tryf.prog.make = some Rows.fnFixNewlinesObjectIdempotentRow.make := by kernel_rfl
set_option maxRecDepth 100000 in
theorem F_own : ownKnob Tryf.prog.godebug = none := by kernel_rfl
theorem F_quiet (os : Os) : Stop.quiet Tryf.checked.prog os := by
  intro k hk
  rw [show Tryf.checked.prog.stopKnobs = [] from F_knobs] at hk
  cases hk
end Go.Proofs.YtfacfgecnpeceaaFmt
