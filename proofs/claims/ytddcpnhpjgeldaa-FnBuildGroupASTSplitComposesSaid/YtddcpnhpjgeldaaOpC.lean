/- The contracts of leftRecursive, leftRecursiveDeep and openFodder at a node of type Local. -/
import Derived.Test.YtddcpnhpjgeldaaNode
namespace Go.Proofs.Ytddcpnhpjgeldaa
open Go.ChangeShapes Go.WideShapes Go.ChangeAt Go.RowKit

set_option maxRecDepth 100000 in
theorem leftRec_Local (w : World) (xb : Nat) : Calls Try.prog 41 #[.iface 34 (.pointer (some ⟨xb, 0, none⟩))] w fun e w' => e = .returned .nilIface ∧ w = w' := by
  have ta_ApplyBrace := fun w : World => ta_no_ApplyBrace 34 (.pointer (some ⟨xb, 0, none⟩)) 47 w (by decide)
  have ta_Apply := fun w : World => ta_no_Apply 34 (.pointer (some ⟨xb, 0, none⟩)) 47 w (by decide)
  have ta_Binary := fun w : World => ta_no_Binary 34 (.pointer (some ⟨xb, 0, none⟩)) 47 w (by decide)
  have ta_Index := fun w : World => ta_no_Index 34 (.pointer (some ⟨xb, 0, none⟩)) 47 w (by decide)
  have ta_InSuper := fun w : World => ta_no_InSuper 34 (.pointer (some ⟨xb, 0, none⟩)) 47 w (by decide)
  have ta_Slice := fun w : World => ta_no_Slice 34 (.pointer (some ⟨xb, 0, none⟩)) 47 w (by decide)
  go_enter Try.func41, Try.ntmps41
  go_wp2_with fail
  go_ret
  exact ⟨rfl, rfl⟩

set_option maxRecDepth 100000 in
theorem neqNil_Local (w : World) : (binOp .neq 47 .nilIface .nilIface).run Try.prog w = .ok (.bool false) w := by kernel_rfl

set_option maxRecDepth 100000 in
theorem leftDeep_Local (w : World) (xb : Nat) : Calls Try.prog 40 #[.iface 34 (.pointer (some ⟨xb, 0, none⟩))] w fun e w' => e = .returned (.iface 34 (.pointer (some ⟨xb, 0, none⟩))) ∧ w = w' := by
  have e1 := fun w => neqNil_Local w
  go_enter Try.func40, Try.ntmps40
  go_wp2_with fail
  refine (leftRec_Local _ _).mono ?_
  rintro e w' ⟨rfl, rfl⟩
  go_wp2_with fail
  refine wp_loop_rounds 1 ?_
  rw [rounds_succ]
  go_wp2_with fail
  go_ret
  exact ⟨rfl, rfl⟩

set_option maxRecDepth 100000 in
theorem openM_Local (xb : Nat) (w : World) : (method 265 34 (.pointer (some ⟨xb, 0, none⟩)) "OpenFodder").run Try.prog w = .ok (58, .pointer (some ⟨xb, 2, none⟩)) w := by kernel_rfl

set_option maxRecDepth 100000 in
theorem openF_Local (w : World) (xb : Nat) : Calls Try.prog 38 #[.iface 34 (.pointer (some ⟨xb, 0, none⟩))] w fun e w' => e = .returned (.pointer (some ⟨xb, 2, none⟩)) ∧ w = w' := by
  have ho := openM_Local xb w
  go_enter Try.func38, Try.ntmps38
  go_wp2_with fail
  refine (leftDeep_Local _ _).mono ?_
  rintro e w' ⟨rfl, rfl⟩
  go_wp2_with fail
  refine (openFodder_base _ xb 2).mono ?_
  rintro e w' ⟨rfl, rfl⟩
  go_wp2_with fail
  go_ret
  exact ⟨rfl, rfl⟩
end Go.Proofs.Ytddcpnhpjgeldaa
