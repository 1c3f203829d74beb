/- Closed facts on the program, each for itself: no condition. -/
import Derived.Test.YtgdipdbmllkckaaGreatFmtRows
import Derived.JoinedOf
import Derived.KernelRfl
import Derived.SevenToldRow
import Derived.Stop.JoinedTold
namespace Go.Proofs.YtgdipdbmllkckaaGreatFmt
open Go
set_option maxRecDepth 100000 in
theorem F_laid : laidOutB Tryz.prog = true := by kernel_rfl
set_option maxRecDepth 100000 in
theorem F_maps : mapsRowed Tryz.prog = true := by kernel_rfl
set_option maxRecDepth 100000 in
theorem F_stops : Tryz.prog.stops = ["fmt.Sprintf"] := by kernel_rfl
set_option maxRecDepth 100000 in
theorem F_knobs : Tryz.prog.stopKnobs = [] := by kernel_rfl
set_option maxRecDepth 100000 in
theorem F_env : Tryz.prog.envWorded = true := by kernel_rfl
set_option maxRecDepth 100000 in
theorem F_main : Tryz.prog.mainIs = some (true, ( "ab8ac59530d5db76f52235e77eb26b47390e243d242d95e73e0b5bb34b20733b" : String).toList) := by kernel_rfl
set_option maxRecDepth 100000 in
theorem F_looks : true = Tryz.prog.looks [] := by kernel_rfl
set_option maxRecDepth 100000 in
theorem F_enter : Tryz.prog.mayEnter = true := by kernel_rfl
set_option maxRecDepth 100000 in
theorem F_heard : Tryz.prog.stopsHeard = true := by kernel_rfl
set_option maxRecDepth 100000 in
theorem F_keys : Rows.fnObjectCompMatchesModelRow.plainKeys = Tryz.prog.plainKeys := by kernel_rfl
set_option maxRecDepth 100000 in
theorem F_lift : Rows.fnObjectCompMatchesModelRow.lifted = Tryz.prog.liftsFinal := by kernel_rfl
set_option maxRecDepth 100000 in
theorem F_make : Tryz.prog.make = some Rows.fnObjectCompMatchesModelRow.make := by kernel_rfl
set_option maxRecDepth 100000 in
theorem F_own : ownKnob Tryz.prog.godebug = none := by kernel_rfl
theorem F_quiet (os : Os) : Stop.quiet Tryz.checked.prog os := by
  intro k hk
  rw [show Tryz.checked.prog.stopKnobs = [] from F_knobs] at hk
  cases hk
end Go.Proofs.YtgdipdbmllkckaaGreatFmt
