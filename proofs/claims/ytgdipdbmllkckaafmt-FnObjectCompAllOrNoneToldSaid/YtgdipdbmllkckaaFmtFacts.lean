/- Closed facts on the program, each for itself: no condition. -/
import Derived.Test.YtgdipdbmllkckaaFmtRows
import Derived.JoinedOf
import Derived.KernelRfl
import Derived.SevenToldRow
import Derived.Stop.JoinedTold
namespace Go.Proofs.YtgdipdbmllkckaaFmt
open Go
set_option maxRecDepth 100000 in
theorem F_laid : laidOutB Tryf.prog = true := by kernel_rfl
set_option maxRecDepth 100000 in
theorem F_maps : mapsRowed Tryf.prog = true := by kernel_rfl
set_option maxRecDepth 100000 in
theorem F_stops : Tryf.prog.stops = ["fmt.Sprintf"] := by kernel_rfl
set_option maxRecDepth 100000 in
theorem F_knobs : Tryf.prog.stopKnobs = [] := by kernel_rfl
set_option maxRecDepth 100000 in
theorem F_env : Tryf.prog.envWorded = true := by kernel_rfl
set_option maxRecDepth 100000 in
theorem F_main : Tryf.prog.mainIs = some (true, ( "829ec09c06cb1001ea7dcf1464e58726bb7621b27201716d75e436332240c93a" : String).toList) := by kernel_rfl
set_option maxRecDepth 100000 in
theorem F_looks : true = Tryf.prog.looks [] := by kernel_rfl
set_option maxRecDepth 100000 in
theorem F_enter : Tryf.prog.mayEnter = true := by kernel_rfl
set_option maxRecDepth 100000 in
theorem F_heard : Tryf.prog.stopsHeard = true := by kernel_rfl
set_option maxRecDepth 100000 in
theorem F_keys : Rows.fnObjectCompAllOrNoneRow.plainKeys = Tryf.prog.plainKeys := by kernel_rfl
set_option maxRecDepth 100000 in
theorem F_lift : Rows.fnObjectCompAllOrNoneRow.lifted = Tryf.prog.liftsFinal := by kernel_rfl
set_option maxRecDepth 100000 in
theorem F_make : Tryf.prog.make = some Rows.fnObjectCompAllOrNoneRow.make := by kernel_rfl
set_option maxRecDepth 100000 in
theorem F_own : ownKnob Tryf.prog.godebug = none := by kernel_rfl
theorem F_quiet (os : Os) : Stop.quiet Tryf.checked.prog os := by
  intro k hk
  rw [show Tryf.checked.prog.stopKnobs = [] from F_knobs] at hk
  cases hk
end Go.Proofs.YtgdipdbmllkckaaFmt
