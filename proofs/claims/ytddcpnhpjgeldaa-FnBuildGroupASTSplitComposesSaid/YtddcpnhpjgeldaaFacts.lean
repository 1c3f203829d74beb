/- Closed facts on the program, each for itself: no condition. -/
import Derived.Test.YtddcpnhpjgeldaaRows
import Derived.JoinedOf
import Derived.KernelRfl
namespace Go.Proofs.Ytddcpnhpjgeldaa
open Go
theorem fact_and {a b : Bool} (ha : a = true) (hb : b = true) : (a && b) = true := by rw [ha, hb]; rfl
theorem fact2 : laidOutB Try.prog = true := by kernel_rfl
theorem fact3 : mapsRowed Try.prog = true := by kernel_rfl
theorem fact7 : (Try.prog.stops == []) = true := by kernel_rfl
theorem fact9 : (Try.prog.stopKnobs == []) = true := by kernel_rfl
theorem fact23 : (Rows.fnGroupEndsAfterTailMonotoneAndSameLineCommentNeutralRow.plainKeys == Try.prog.plainKeys) = true := by kernel_rfl
theorem fact25 : Try.prog.stopsHeard = true := by kernel_rfl
theorem fact26 : Try.prog.mayEnter = true := by kernel_rfl
theorem fact27 : (Rows.fnGroupEndsAfterTailMonotoneAndSameLineCommentNeutralRow.lifted == Try.prog.liftsFinal) = true := by kernel_rfl
theorem fact28 : (Try.prog.make == some Rows.fnGroupEndsAfterTailMonotoneAndSameLineCommentNeutralRow.make) = true := by kernel_rfl
end Go.Proofs.Ytddcpnhpjgeldaa
