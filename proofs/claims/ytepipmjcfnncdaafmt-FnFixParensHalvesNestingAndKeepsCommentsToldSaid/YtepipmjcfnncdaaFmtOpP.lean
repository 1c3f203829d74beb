/- The contracts of leftRecursive, leftRecursiveDeep and openFodder at a node of type Parens. -/
import Derived.Test.YtepipmjcfnncdaaFmtNode
namespace Go.Proofs.YtepipmjcfnncdaaFmt
open Go.ChangeShapes Go.WideShapes Go.ChangeAt Go.RowKit

set_option maxRecDepth 100000 in
theorem leftRec_Parens (w : World) (xb : Nat) : Calls Tryf.prog 108 #[.iface 121 (.pointer (some ⟨xb, 0, none⟩))] w fun e w' => e = .returned .nilIface ∧ w = w' := by
  have ta_ApplyBrace := fun w : World => ta_no_ApplyBrace 121 (.pointer (some ⟨xb, 0, none⟩)) 31 w (by decide)
  have ta_Apply := fun w : World => ta_no_Apply 121 (.pointer (some ⟨xb, 0, none⟩)) 31 w (by decide)
  have ta_Binary := fun w : World => ta_no_Binary 121 (.pointer (some ⟨xb, 0, none⟩)) 31 w (by decide)
  have ta_Index := fun w : World => ta_no_Index 121 (.pointer (some ⟨xb, 0, none⟩)) 31 w (by decide)
  have ta_InSuper := fun w : World => ta_no_InSuper 121 (.pointer (some ⟨xb, 0, none⟩)) 31 w (by decide)
  have ta_Slice := fun w : World => ta_no_Slice 121 (.pointer (some ⟨xb, 0, none⟩)) 31 w (by decide)
  go_enter Tryf.func108, Tryf.ntmps108
  go_wp2_with fail
  go_ret
  exact ⟨rfl, rfl⟩

set_option maxRecDepth 100000 in
theorem neqNil_Parens (w : World) : (binOp .neq 31 .nilIface .nilIface).run Tryf.prog w = .ok (.bool false) w := by kernel_rfl

set_option maxRecDepth 100000 in
theorem leftDeep_Parens (w : World) (xb : Nat) : Calls Tryf.prog 103 #[.iface 121 (.pointer (some ⟨xb, 0, none⟩))] w fun e w' => e = .returned (.iface 121 (.pointer (some ⟨xb, 0, none⟩))) ∧ w = w' := by
  have e1 := fun w => neqNil_Parens w
  go_enter Tryf.func103, Tryf.ntmps103
  go_wp2_with fail
  refine (leftRec_Parens _ _).mono ?_
  rintro e w' ⟨rfl, rfl⟩
  go_wp2_with fail
  refine wp_loop_rounds 1 ?_
  rw [rounds_succ]
  go_wp2_with fail
  go_ret
  exact ⟨rfl, rfl⟩

set_option maxRecDepth 100000 in
theorem openM_Parens (xb : Nat) (w : World) : (method 441 121 (.pointer (some ⟨xb, 0, none⟩)) "OpenFodder").run Tryf.prog w = .ok (125, .pointer (some ⟨xb, 2, none⟩)) w := by kernel_rfl

set_option maxRecDepth 100000 in
theorem openF_Parens (w : World) (xb : Nat) : Calls Tryf.prog 90 #[.iface 121 (.pointer (some ⟨xb, 0, none⟩))] w fun e w' => e = .returned (.pointer (some ⟨xb, 2, none⟩)) ∧ w = w' := by
  have ho := openM_Parens xb w
  go_enter Tryf.func90, Tryf.ntmps90
  go_wp2_with fail
  refine (leftDeep_Parens _ _).mono ?_
  rintro e w' ⟨rfl, rfl⟩
  go_wp2_with fail
  refine (openFodder_base _ xb 2).mono ?_
  rintro e w' ⟨rfl, rfl⟩
  go_wp2_with fail
  go_ret
  exact ⟨rfl, rfl⟩
end Go.Proofs.YtepipmjcfnncdaaFmt
