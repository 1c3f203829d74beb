/- The contracts of leftRecursive, leftRecursiveDeep and openFodder at a node of type Var. -/
import Derived.Test.YtepipmjcfnncdaaFmtNode
namespace Go.Proofs.YtepipmjcfnncdaaFmt
open Go.ChangeShapes Go.WideShapes Go.ChangeAt Go.RowKit

set_option maxRecDepth 100000 in
theorem leftRec_Var (w : World) (xb : Nat) : Calls Tryf.prog 108 #[.iface 58 (.pointer (some ⟨xb, 0, none⟩))] w fun e w' => e = .returned .nilIface ∧ w = w' := by
  have ta_ApplyBrace := fun w : World => ta_no_ApplyBrace 58 (.pointer (some ⟨xb, 0, none⟩)) 31 w (by decide)
  have ta_Apply := fun w : World => ta_no_Apply 58 (.pointer (some ⟨xb, 0, none⟩)) 31 w (by decide)
  have ta_Binary := fun w : World => ta_no_Binary 58 (.pointer (some ⟨xb, 0, none⟩)) 31 w (by decide)
  have ta_Index := fun w : World => ta_no_Index 58 (.pointer (some ⟨xb, 0, none⟩)) 31 w (by decide)
  have ta_InSuper := fun w : World => ta_no_InSuper 58 (.pointer (some ⟨xb, 0, none⟩)) 31 w (by decide)
  have ta_Slice := fun w : World => ta_no_Slice 58 (.pointer (some ⟨xb, 0, none⟩)) 31 w (by decide)
  go_enter Tryf.func108, Tryf.ntmps108
  go_wp2_with fail
  go_ret
  exact ⟨rfl, rfl⟩

set_option maxRecDepth 100000 in
theorem neqNil_Var (w : World) : (binOp .neq 31 .nilIface .nilIface).run Tryf.prog w = .ok (.bool false) w := by kernel_rfl

set_option maxRecDepth 100000 in
theorem leftDeep_Var (w : World) (xb : Nat) : Calls Tryf.prog 103 #[.iface 58 (.pointer (some ⟨xb, 0, none⟩))] w fun e w' => e = .returned (.iface 58 (.pointer (some ⟨xb, 0, none⟩))) ∧ w = w' := by
  have e1 := fun w => neqNil_Var w
  go_enter Tryf.func103, Tryf.ntmps103
  go_wp2_with fail
  refine (leftRec_Var _ _).mono ?_
  rintro e w' ⟨rfl, rfl⟩
  go_wp2_with fail
  refine wp_loop_rounds 1 ?_
  rw [rounds_succ]
  go_wp2_with fail
  go_ret
  exact ⟨rfl, rfl⟩

set_option maxRecDepth 100000 in
theorem openM_Var (xb : Nat) (w : World) : (method 441 58 (.pointer (some ⟨xb, 0, none⟩)) "OpenFodder").run Tryf.prog w = .ok (125, .pointer (some ⟨xb, 1, none⟩)) w := by kernel_rfl

set_option maxRecDepth 100000 in
theorem openF_Var (w : World) (xb : Nat) : Calls Tryf.prog 90 #[.iface 58 (.pointer (some ⟨xb, 0, none⟩))] w fun e w' => e = .returned (.pointer (some ⟨xb, 1, none⟩)) ∧ w = w' := by
  have ho := openM_Var xb w
  go_enter Tryf.func90, Tryf.ntmps90
  go_wp2_with fail
  refine (leftDeep_Var _ _).mono ?_
  rintro e w' ⟨rfl, rfl⟩
  go_wp2_with fail
  refine (openFodder_base _ xb 1).mono ?_
  rintro e w' ⟨rfl, rfl⟩
  go_wp2_with fail
  go_ret
  exact ⟨rfl, rfl⟩
end Go.Proofs.YtepipmjcfnncdaaFmt
