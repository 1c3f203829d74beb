/- The contracts of leftRecursive, leftRecursiveDeep and openFodder at a node of type LiteralNull. -/
import Derived.Test.YtgdipdbmllkckaaFmtNode
namespace Go.Proofs.YtgdipdbmllkckaaFmt
open Go.ChangeShapes Go.WideShapes Go.ChangeAt Go.RowKit

set_option maxRecDepth 100000 in
theorem leftRec_LiteralNull (w : World) (xb : Nat) : Calls Tryf.prog 43 #[.iface 101 (.pointer (some ⟨xb, 0, none⟩))] w fun e w' => e = .returned .nilIface ∧ w = w' := by
  have ta_ApplyBrace := fun w : World => ta_no_ApplyBrace 101 (.pointer (some ⟨xb, 0, none⟩)) 45 w (by decide)
  have ta_Apply := fun w : World => ta_no_Apply 101 (.pointer (some ⟨xb, 0, none⟩)) 45 w (by decide)
  have ta_Binary := fun w : World => ta_no_Binary 101 (.pointer (some ⟨xb, 0, none⟩)) 45 w (by decide)
  have ta_Index := fun w : World => ta_no_Index 101 (.pointer (some ⟨xb, 0, none⟩)) 45 w (by decide)
  have ta_InSuper := fun w : World => ta_no_InSuper 101 (.pointer (some ⟨xb, 0, none⟩)) 45 w (by decide)
  have ta_Slice := fun w : World => ta_no_Slice 101 (.pointer (some ⟨xb, 0, none⟩)) 45 w (by decide)
  go_enter Tryf.func43, Tryf.ntmps43
  go_wp2_with fail
  go_ret
  exact ⟨rfl, rfl⟩

set_option maxRecDepth 100000 in
theorem neqNil_LiteralNull (w : World) : (binOp .neq 45 .nilIface .nilIface).run Tryf.prog w = .ok (.bool false) w := by kernel_rfl

set_option maxRecDepth 100000 in
theorem leftDeep_LiteralNull (w : World) (xb : Nat) : Calls Tryf.prog 42 #[.iface 101 (.pointer (some ⟨xb, 0, none⟩))] w fun e w' => e = .returned (.iface 101 (.pointer (some ⟨xb, 0, none⟩))) ∧ w = w' := by
  have e1 := fun w => neqNil_LiteralNull w
  go_enter Tryf.func42, Tryf.ntmps42
  go_wp2_with fail
  refine (leftRec_LiteralNull _ _).mono ?_
  rintro e w' ⟨rfl, rfl⟩
  go_wp2_with fail
  refine wp_loop_rounds 1 ?_
  rw [rounds_succ]
  go_wp2_with fail
  go_ret
  exact ⟨rfl, rfl⟩

set_option maxRecDepth 100000 in
theorem openM_LiteralNull (xb : Nat) (w : World) : (method 388 101 (.pointer (some ⟨xb, 0, none⟩)) "OpenFodder").run Tryf.prog w = .ok (60, .pointer (some ⟨xb, 0, none⟩)) w := by kernel_rfl

set_option maxRecDepth 100000 in
theorem openF_LiteralNull (w : World) (xb : Nat) : Calls Tryf.prog 37 #[.iface 101 (.pointer (some ⟨xb, 0, none⟩))] w fun e w' => e = .returned (.pointer (some ⟨xb, 0, none⟩)) ∧ w = w' := by
  have ho := openM_LiteralNull xb w
  go_enter Tryf.func37, Tryf.ntmps37
  go_wp2_with fail
  refine (leftDeep_LiteralNull _ _).mono ?_
  rintro e w' ⟨rfl, rfl⟩
  go_wp2_with fail
  refine (openFodder_base _ xb 0).mono ?_
  rintro e w' ⟨rfl, rfl⟩
  go_wp2_with fail
  go_ret
  exact ⟨rfl, rfl⟩
end Go.Proofs.YtgdipdbmllkckaaFmt
