/- Closed facts on the program, each for itself: no condition. -/
import Derived.Test.YtgpefdmgcigajaaFmtRows
import Derived.JoinedOf
import Derived.KernelRfl
import Derived.SevenToldRow
import Derived.Stop.JoinedTold
namespace Go.Proofs.YtgpefdmgcigajaaFmt
open Go
set_option maxRecDepth 100000 in
theorem F_laid : laidOutB Tryf.prog = true := by kernel_rfl
set_option maxRecDepth 100000 in
theorem F_maps : mapsRowed Tryf.prog = true := by kernel_rfl
set_option maxRecDepth 100000 in
theorem F_stops : Tryf.prog.stops = ["fmt.Sprintf"] := by kernel_rfl
set_option maxRecDepth 100000 in
theorem F_knobs : Tryf.prog.stopKnobs = [] := by kernel_rfl
set_option maxRecDepth 100000 in
theorem F_env : Tryf.prog.envWorded = true := by kernel_rfl
set_option maxRecDepth 100000 in
theorem F_main : Tryf.prog.mainIs = some (true, ( "888ebb5902b5ae062eb0670805a5342e614e26dca1817bcf4c910f1e682d9ec7" : String).toList) := by kernel_rfl
set_option maxRecDepth 100000 in
theorem F_looks : true = Tryf.prog.looks [] := by kernel_rfl
set_option maxRecDepth 100000 in
theorem F_enter : Tryf.prog.mayEnter = true := by kernel_rfl
set_option maxRecDepth 100000 in
theorem F_heard : Tryf.prog.stopsHeard = true := by kernel_rfl
set_option maxRecDepth 100000 in
theorem F_keys : Rows.fnShouldExpandSpecIsAnyNewlineRow.plainKeys = Tryf.prog.plainKeys := by kernel_rfl
set_option maxRecDepth 100000 in
theorem F_lift : Rows.fnShouldExpandSpecIsAnyNewlineRow.lifted = Tryf.prog.liftsFinal := by kernel_rfl
set_option maxRecDepth 100000 in
theorem F_make : Tryf.prog.make = some Rows.fnShouldExpandSpecIsAnyNewlineRow.make := by kernel_rfl
set_option maxRecDepth 100000 in
theorem F_own : ownKnob Tryf.prog.godebug = none := by kernel_rfl
theorem F_quiet (os : Os) : Stop.quiet Tryf.checked.prog os := by
  intro k hk
  rw [show Tryf.checked.prog.stopKnobs = [] from F_knobs] at hk
  cases hk
end Go.Proofs.YtgpefdmgcigajaaFmt
