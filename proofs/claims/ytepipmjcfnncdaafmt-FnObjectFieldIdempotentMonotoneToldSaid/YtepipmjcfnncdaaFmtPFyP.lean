/- The contracts of n008_125's zzRank and zzExprIsOriginal. -/
import Derived.Test.YtepipmjcfnncdaaFmtPFzP
namespace Go.Proofs.YtepipmjcfnncdaaFmt
open Go.ChangeShapes Go.WideShapes Go.ChangeAt Go.RowKit

/-- Where a kind stands along [e], "s", id. -/
def rankOf (k : Int) : Int := if k = 2 then 0 else if k = 3 then 1 else 2
theorem zzRank_1 (w : World) : Calls Tryf.prog 62 #[.int .i64 1] w fun e w' => e = .returned (.int .i64 (rankOf 1)) ∧ w = w' := by
  rw [show rankOf 1 = 2 from rfl]
  go_enter Tryf.func62, Tryf.ntmps62
  go_wp2_with fail
  go_ret
  exact ⟨rfl, rfl⟩
theorem zzRank_2 (w : World) : Calls Tryf.prog 62 #[.int .i64 2] w fun e w' => e = .returned (.int .i64 (rankOf 2)) ∧ w = w' := by
  rw [show rankOf 2 = 0 from rfl]
  go_enter Tryf.func62, Tryf.ntmps62
  go_wp2_with fail
  go_ret
  exact ⟨rfl, rfl⟩
theorem zzRank_3 (w : World) : Calls Tryf.prog 62 #[.int .i64 3] w fun e w' => e = .returned (.int .i64 (rankOf 3)) ∧ w = w' := by
  rw [show rankOf 3 = 1 from rfl]
  go_enter Tryf.func62, Tryf.ntmps62
  go_wp2_with fail
  go_ret
  exact ⟨rfl, rfl⟩

set_option maxRecDepth 100000 in
theorem orig_nil (w : World) (nb : Nat) (l v : Value) (c6 : w.cell? ⟨nb, 6, none⟩ = some .nilIface) :
    Calls Tryf.prog 63 #[.pointer (some ⟨nb, 0, none⟩), l, v] w fun e w' => e = .returned (.bool true) ∧ w = w' := by
  have e1 := fun w => eqlNN w
  go_enter Tryf.func63, Tryf.ntmps63
  go_wp2_with fail
  go_ret
  exact ⟨rfl, rfl⟩
set_option maxRecDepth 100000 in
theorem orig_lit (w : World) (nb yb : Nat) (c6 : w.cell? ⟨nb, 6, none⟩ = some (litV yb)) :
    Calls Tryf.prog 63 #[.pointer (some ⟨nb, 0, none⟩), .pointer (some ⟨yb, 0, none⟩), .pointer none] w fun e w' => e = .returned (.bool true) ∧ w = w' := by
  have e1 := fun w => eqlN w 25 (.pointer (some ⟨yb, 0, none⟩))
  have e2 := fun w => eqlLit w yb
  go_enter Tryf.func63, Tryf.ntmps63
  go_wp2_with fail
  refine (zzAsLit_lit _ _).mono ?_
  rintro e w' ⟨rfl, rfl⟩
  go_wp2_with fail
  go_ret
  exact ⟨rfl, rfl⟩
set_option maxRecDepth 100000 in
theorem orig_var (w : World) (nb yb : Nat) (c6 : w.cell? ⟨nb, 6, none⟩ = some (varV yb)) :
    Calls Tryf.prog 63 #[.pointer (some ⟨nb, 0, none⟩), .pointer none, .pointer (some ⟨yb, 0, none⟩)] w fun e w' => e = .returned (.bool true) ∧ w = w' := by
  have e1 := fun w => eqlN w 58 (.pointer (some ⟨yb, 0, none⟩))
  have e2 := fun w => eqlVar w yb
  go_enter Tryf.func63, Tryf.ntmps63
  go_wp2_with fail
  refine (zzAsVar_var _ _).mono ?_
  rintro e w' ⟨rfl, rfl⟩
  go_wp2_with fail
  go_ret
  exact ⟨rfl, rfl⟩
end Go.Proofs.YtepipmjcfnncdaaFmt
