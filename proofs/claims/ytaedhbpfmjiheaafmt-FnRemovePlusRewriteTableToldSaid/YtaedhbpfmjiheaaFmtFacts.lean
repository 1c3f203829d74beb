/- Closed facts on the program, each for itself: no condition. -/
import Derived.Test.YtaedhbpfmjiheaaFmtRows
import Derived.JoinedOf
import Derived.KernelRfl
import Derived.SevenToldRow
import Derived.Stop.JoinedTold
namespace Go.Proofs.YtaedhbpfmjiheaaFmt
open Go
set_option maxRecDepth 100000 in
theorem F_laid : laidOutB Tryf.prog = true := by kernel_rfl
set_option maxRecDepth 100000 in
theorem F_maps : mapsRowed Tryf.prog = true := by kernel_rfl
set_option maxRecDepth 100000 in
theorem F_stops : Tryf.prog.stops = ["fmt.Sprintf"] := by kernel_rfl
set_option maxRecDepth 100000 in
theorem F_knobs : Tryf.prog.stopKnobs = [] := by kernel_rfl
set_option maxRecDepth 100000 in
theorem F_env : Tryf.prog.envWorded = true := by kernel_rfl
set_option maxRecDepth 100000 in
theorem F_main : Tryf.prog.mainIs = some (true, ( "0231dbe2bfeccc07087b804ac83c7dd2e95779de48ab0134cda618aa24919ff7" : String).toList) := by kernel_rfl
set_option maxRecDepth 100000 in
theorem F_looks : true = Tryf.prog.looks [] := by kernel_rfl
set_option maxRecDepth 100000 in
theorem F_enter : Tryf.prog.mayEnter = true := by kernel_rfl
set_option maxRecDepth 100000 in
theorem F_heard : Tryf.prog.stopsHeard = true := by kernel_rfl
set_option maxRecDepth 100000 in
theorem F_keys : Rows.fnRemovePlusRewriteTableRow.plainKeys = Tryf.prog.plainKeys := by kernel_rfl
set_option maxRecDepth 100000 in
theorem F_lift : Rows.fnRemovePlusRewriteTableRow.lifted = Tryf.prog.liftsFinal := by kernel_rfl
set_option maxRecDepth 100000 in
theorem F_make : Tryf.prog.make = some Rows.fnRemovePlusRewriteTableRow.make := by kernel_rfl
set_option maxRecDepth 100000 in
theorem F_own : ownKnob Tryf.prog.godebug = none := by kernel_rfl
theorem F_quiet (os : Os) : Stop.quiet Tryf.checked.prog os := by
  intro k hk
  rw [show Tryf.checked.prog.stopKnobs = [] from F_knobs] at hk
  cases hk
end Go.Proofs.YtaedhbpfmjiheaaFmt
