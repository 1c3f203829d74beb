/- The contract of the pass's Visit at a leaf, a node of type Var. -/
import Derived.Test.YtfacfgecnpeceaaFmtPass
namespace Go.Proofs.YtfacfgecnpeceaaFmt
open Go.ChangeShapes Go.WideShapes Go.ChangeAt Go.RowKit

set_option maxRecDepth 100000 in
theorem pass_Var (w : World) (a b c d : Value) :
    Calls Tryf.prog 87 #[a, b, c, d] w fun e w' => e = .returned (.tuple #[]) ∧ w = w' := by
  go_enter Tryf.func87, Tryf.ntmps87
  go_wp2_with fail
  go_end0
  exact ⟨rfl, rfl⟩

set_option maxRecDepth 100000 in
theorem open_Var (xb : Nat) (w : World) : (method 377 60 (.pointer (some ⟨xb, 0, none⟩)) "OpenFodder").run Tryf.prog w = .ok (49, .pointer (some ⟨xb, 1, none⟩)) w := by kernel_rfl
set_option maxRecDepth 100000 in
theorem meth_Var (pb : Nat) (w : World) (h : IsPass w pb) : (method 377 77 (.pointer (some ⟨pb, 0, none⟩)) "Var").run Tryf.prog w = .ok (87, .pointer (some ⟨pb, 0, none⟩)) w :=
  meth_base w pb h _ _ 376 (by kernel_rfl) base_field

set_option maxRecDepth 100000 in
set_option maxHeartbeats 4000000 in
theorem visit_Var (w : World) (base : Nat) (r : Value) (pb nb no xb : Nat) (hpb : IsPass w pb) (ctx : Value) (fv : Value) (l : List FE) (h : Fod w base fv l)
    (hn : w.cell? ⟨nb, no, none⟩ = some (.iface 60 (.pointer (some ⟨xb, 0, none⟩)))) (hx : w.cell? ⟨xb, 1, none⟩ = some fv) (hf : w.frozen? ⟨xb, 1, none⟩ = false) :
    Calls Tryf.prog 88 #[r, .iface 77 (.pointer (some ⟨pb, 0, none⟩)), .pointer (some ⟨nb, no, none⟩), ctx] w fun e w' => e = .returned (.tuple #[]) ∧ Kept [] w w' := by
  obtain ⟨fa, fn, fc, rfl⟩ := h.isSlice
  have hm1 := meth_Fodder pb (w.alloc (.cells #[.slice fa fn fc] 37)) (hpb.kept ((Kept.refl [] w).alloc _) (by simp))
  have H := Lib.hid h; clear h
  have HPB := Lib.hid hpb; clear hpb
  go_enter Tryf.func88, Tryf.ntmps88
  go_wp2_with fail
  refine (openFodder_base _ xb 1).mono ?_
  rintro e w' ⟨rfl, rfl⟩
  go_wp2_with fail
  have k0 : Kept [] w (w.alloc (.cells #[.slice fa fn fc] 37)) := (Kept.refl [] w).alloc _
  have c0 : (w.alloc (.cells #[.slice fa fn fc] 37)).cell? ⟨w.heap.size, 0, none⟩ = some (.slice fa fn fc) := by simp
  refine (passFodder _ base _ pb w.heap.size 0 (HPB.out.kept k0 (by simp)) _ (.slice fa fn fc) l (H.out.kept k0 (by simp)) c0).mono ?_
  rintro e w1 ⟨rfl, k1⟩
  have c1 := k1.cell c0 (by simp)
  have k01 := k0.trans k1
  have hn1 := k01.cell hn (by simp)
  have hx1 := k01.cell hx (by simp)
  have hf1 := (k01.frozen (World.block_lt_of_cell? w _ hx) (by simp)).trans hf
  have p1 := HPB.out.kept k01 (by simp)
  have K01 := Lib.hid k01; clear k01
  clear k0 k1 c0 hm1 hn hx hf
  have hm2 := meth_Var pb w1.drew (p1.kept (Kept.refl [] w1).drew (by simp))
  have P1 := Lib.hid p1; clear p1
  have ho2 := open_Var xb w1.drew
  have ta_Apply := fun w : World => ta_no_Apply 60 (.pointer (some ⟨xb, 0, none⟩)) 73 w (by decide)
  have ta_ApplyBrace := fun w : World => ta_no_ApplyBrace 60 (.pointer (some ⟨xb, 0, none⟩)) 73 w (by decide)
  have ta_Array := fun w : World => ta_no_Array 60 (.pointer (some ⟨xb, 0, none⟩)) 73 w (by decide)
  have ta_ArrayComp := fun w : World => ta_no_ArrayComp 60 (.pointer (some ⟨xb, 0, none⟩)) 73 w (by decide)
  have ta_Assert := fun w : World => ta_no_Assert 60 (.pointer (some ⟨xb, 0, none⟩)) 73 w (by decide)
  have ta_Binary := fun w : World => ta_no_Binary 60 (.pointer (some ⟨xb, 0, none⟩)) 73 w (by decide)
  have ta_Conditional := fun w : World => ta_no_Conditional 60 (.pointer (some ⟨xb, 0, none⟩)) 73 w (by decide)
  have ta_Dollar := fun w : World => ta_no_Dollar 60 (.pointer (some ⟨xb, 0, none⟩)) 73 w (by decide)
  have ta_Error := fun w : World => ta_no_Error 60 (.pointer (some ⟨xb, 0, none⟩)) 73 w (by decide)
  have ta_Function := fun w : World => ta_no_Function 60 (.pointer (some ⟨xb, 0, none⟩)) 73 w (by decide)
  have ta_Import := fun w : World => ta_no_Import 60 (.pointer (some ⟨xb, 0, none⟩)) 73 w (by decide)
  have ta_ImportStr := fun w : World => ta_no_ImportStr 60 (.pointer (some ⟨xb, 0, none⟩)) 73 w (by decide)
  have ta_ImportBin := fun w : World => ta_no_ImportBin 60 (.pointer (some ⟨xb, 0, none⟩)) 73 w (by decide)
  have ta_Index := fun w : World => ta_no_Index 60 (.pointer (some ⟨xb, 0, none⟩)) 73 w (by decide)
  have ta_InSuper := fun w : World => ta_no_InSuper 60 (.pointer (some ⟨xb, 0, none⟩)) 73 w (by decide)
  have ta_LiteralBoolean := fun w : World => ta_no_LiteralBoolean 60 (.pointer (some ⟨xb, 0, none⟩)) 73 w (by decide)
  have ta_LiteralNull := fun w : World => ta_no_LiteralNull 60 (.pointer (some ⟨xb, 0, none⟩)) 73 w (by decide)
  have ta_LiteralNumber := fun w : World => ta_no_LiteralNumber 60 (.pointer (some ⟨xb, 0, none⟩)) 73 w (by decide)
  have ta_LiteralString := fun w : World => ta_no_LiteralString 60 (.pointer (some ⟨xb, 0, none⟩)) 73 w (by decide)
  have ta_Local := fun w : World => ta_no_Local 60 (.pointer (some ⟨xb, 0, none⟩)) 73 w (by decide)
  have ta_Object := fun w : World => ta_no_Object 60 (.pointer (some ⟨xb, 0, none⟩)) 73 w (by decide)
  have ta_ObjectComp := fun w : World => ta_no_ObjectComp 60 (.pointer (some ⟨xb, 0, none⟩)) 73 w (by decide)
  have ta_Parens := fun w : World => ta_no_Parens 60 (.pointer (some ⟨xb, 0, none⟩)) 73 w (by decide)
  have ta_Self := fun w : World => ta_no_Self 60 (.pointer (some ⟨xb, 0, none⟩)) 73 w (by decide)
  have ta_Slice := fun w : World => ta_no_Slice 60 (.pointer (some ⟨xb, 0, none⟩)) 73 w (by decide)
  have ta_SuperIndex := fun w : World => ta_no_SuperIndex 60 (.pointer (some ⟨xb, 0, none⟩)) 73 w (by decide)
  have ta_Unary := fun w : World => ta_no_Unary 60 (.pointer (some ⟨xb, 0, none⟩)) 73 w (by decide)
  have ta_y := fun w : World => ta_yes_Var (.pointer (some ⟨xb, 0, none⟩)) 73 w
  have hself : w1.setCell ⟨xb, 1, none⟩ (.slice fa fn fc) = w1 := setCell_self hx1
  go_wp2_with fail
  go_still_tail 6, (by kernel_rfl)
  still_call (openFodder_still _ xb 1)
  repeat still_step
  refine wpStill_nil ?_
  go_wp2_with fail
  refine (pass_Var _ _ _ _ _).mono ?_
  rintro e w' ⟨rfl, rfl⟩
  go_wp2_with fail
  go_end0
  exact ⟨rfl, K01.out.drew⟩
end Go.Proofs.YtfacfgecnpeceaaFmt
