/- The contracts of leftRecursive, leftRecursiveDeep and openFodder at a node of type LiteralString. -/
import Derived.Test.YtfacfgecnpeceaaFmtNode
namespace Go.Proofs.YtfacfgecnpeceaaFmt
open Go.ChangeShapes Go.WideShapes Go.ChangeAt Go.RowKit

set_option maxRecDepth 100000 in
theorem leftRec_LiteralString (w : World) (xb : Nat) : Calls Tryf.prog 32 #[.iface 64 (.pointer (some ⟨xb, 0, none⟩))] w fun e w' => e = .returned .nilIface ∧ w = w' := by
  have ta_ApplyBrace := fun w : World => ta_no_ApplyBrace 64 (.pointer (some ⟨xb, 0, none⟩)) 73 w (by decide)
  have ta_Apply := fun w : World => ta_no_Apply 64 (.pointer (some ⟨xb, 0, none⟩)) 73 w (by decide)
  have ta_Binary := fun w : World => ta_no_Binary 64 (.pointer (some ⟨xb, 0, none⟩)) 73 w (by decide)
  have ta_Index := fun w : World => ta_no_Index 64 (.pointer (some ⟨xb, 0, none⟩)) 73 w (by decide)
  have ta_InSuper := fun w : World => ta_no_InSuper 64 (.pointer (some ⟨xb, 0, none⟩)) 73 w (by decide)
  have ta_Slice := fun w : World => ta_no_Slice 64 (.pointer (some ⟨xb, 0, none⟩)) 73 w (by decide)
  go_enter Tryf.func32, Tryf.ntmps32
  go_wp2_with fail
  go_ret
  exact ⟨rfl, rfl⟩

set_option maxRecDepth 100000 in
theorem neqNil_LiteralString (w : World) : (binOp .neq 73 .nilIface .nilIface).run Tryf.prog w = .ok (.bool false) w := by kernel_rfl

set_option maxRecDepth 100000 in
theorem leftDeep_LiteralString (w : World) (xb : Nat) : Calls Tryf.prog 31 #[.iface 64 (.pointer (some ⟨xb, 0, none⟩))] w fun e w' => e = .returned (.iface 64 (.pointer (some ⟨xb, 0, none⟩))) ∧ w = w' := by
  have e1 := fun w => neqNil_LiteralString w
  go_enter Tryf.func31, Tryf.ntmps31
  go_wp2_with fail
  refine (leftRec_LiteralString _ _).mono ?_
  rintro e w' ⟨rfl, rfl⟩
  go_wp2_with fail
  refine wp_loop_rounds 1 ?_
  rw [rounds_succ]
  go_wp2_with fail
  go_ret
  exact ⟨rfl, rfl⟩

set_option maxRecDepth 100000 in
theorem openM_LiteralString (xb : Nat) (w : World) : (method 377 64 (.pointer (some ⟨xb, 0, none⟩)) "OpenFodder").run Tryf.prog w = .ok (49, .pointer (some ⟨xb, 3, none⟩)) w := by kernel_rfl

set_option maxRecDepth 100000 in
theorem openF_LiteralString (w : World) (xb : Nat) : Calls Tryf.prog 26 #[.iface 64 (.pointer (some ⟨xb, 0, none⟩))] w fun e w' => e = .returned (.pointer (some ⟨xb, 3, none⟩)) ∧ w = w' := by
  have ho := openM_LiteralString xb w
  go_enter Tryf.func26, Tryf.ntmps26
  go_wp2_with fail
  refine (leftDeep_LiteralString _ _).mono ?_
  rintro e w' ⟨rfl, rfl⟩
  go_wp2_with fail
  refine (openFodder_base _ xb 3).mono ?_
  rintro e w' ⟨rfl, rfl⟩
  go_wp2_with fail
  go_ret
  exact ⟨rfl, rfl⟩
end Go.Proofs.YtfacfgecnpeceaaFmt
