/- The contract of n008_142's zzSpecEquals at a chain that reads as what is wanted. -/
import Derived.Test.YtgdipdbmllkckaaFmtP2
namespace Go.Proofs.YtgdipdbmllkckaaFmt
attribute [local go_sem ↓] Go.wp_at_zero Go.wp_at_succ
open Go.ChangeShapes Go.WideShapes Go.ChangeAt Go.RowKit

theorem Pl.out_succ (P : Pl) (k : Nat) : P.out (k + 1) = .pointer (some ⟨P.b k, P.o k, none⟩) := by unfold Pl.out; rw [if_neg (by omega)]; rfl
theorem Pl.out_zero (P : Pl) : P.out 0 = .pointer none := rfl

end Go.Proofs.YtgdipdbmllkckaaFmt
