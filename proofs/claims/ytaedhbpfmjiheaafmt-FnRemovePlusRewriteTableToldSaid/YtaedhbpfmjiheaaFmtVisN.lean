/- The contract of the pass's Visit at a leaf, a node of type LiteralNull. -/
import Derived.Test.YtaedhbpfmjiheaaFmtPass
namespace Go.Proofs.YtaedhbpfmjiheaaFmt
open Go.ChangeShapes Go.WideShapes Go.ChangeAt Go.RowKit

set_option maxRecDepth 100000 in
theorem pass_LiteralNull (w : World) (a b c d : Value) :
    Calls Tryf.prog 60 #[a, b, c, d] w fun e w' => e = .returned (.tuple #[]) ∧ w = w' := by
  go_enter Tryf.func60, Tryf.ntmps60
  go_wp2_with fail
  go_end0
  exact ⟨rfl, rfl⟩

set_option maxRecDepth 100000 in
theorem open_LiteralNull (xb : Nat) (w : World) : (method 360 29 (.pointer (some ⟨xb, 0, none⟩)) "OpenFodder").run Tryf.prog w = .ok (38, .pointer (some ⟨xb, 0, none⟩)) w := by kernel_rfl
set_option maxRecDepth 100000 in
theorem meth_LiteralNull (pb : Nat) (w : World) (h : IsPass w pb) : (method 360 55 (.pointer (some ⟨pb, 0, none⟩)) "LiteralNull").run Tryf.prog w = .ok (60, .pointer (some ⟨pb, 0, none⟩)) w :=
  meth_base w pb h _ _ 359 (by kernel_rfl) base_field

set_option maxRecDepth 100000 in
set_option maxHeartbeats 4000000 in
theorem visit_LiteralNull (w : World) (base : Nat) (r : Value) (pb nb no xb : Nat) (hpb : IsPass w pb) (ctx : Value) (fv : Value) (l : List FE) (h : Fod w base fv l)
    (hn : w.cell? ⟨nb, no, none⟩ = some (.iface 29 (.pointer (some ⟨xb, 0, none⟩)))) (hx : w.cell? ⟨xb, 0, none⟩ = some fv) (hf : w.frozen? ⟨xb, 0, none⟩ = false) :
    Calls Tryf.prog 14 #[r, .iface 55 (.pointer (some ⟨pb, 0, none⟩)), .pointer (some ⟨nb, no, none⟩), ctx] w fun e w' => e = .returned (.tuple #[]) ∧ Kept [] w w' := by
  obtain ⟨fa, fn, fc, rfl⟩ := h.isSlice
  have hm1 := meth_Fodder pb (w.alloc (.cells #[.slice fa fn fc] 26)) (hpb.kept ((Kept.refl [] w).alloc _) (by simp))
  have H := Lib.hid h; clear h
  have HPB := Lib.hid hpb; clear hpb
  go_enter Tryf.func14, Tryf.ntmps14
  go_wp2_with fail
  refine (openFodder_base _ xb 0).mono ?_
  rintro e w' ⟨rfl, rfl⟩
  go_wp2_with fail
  have k0 : Kept [] w (w.alloc (.cells #[.slice fa fn fc] 26)) := (Kept.refl [] w).alloc _
  have c0 : (w.alloc (.cells #[.slice fa fn fc] 26)).cell? ⟨w.heap.size, 0, none⟩ = some (.slice fa fn fc) := by simp
  refine (passFodder _ base _ pb w.heap.size 0 (HPB.out.kept k0 (by simp)) _ (.slice fa fn fc) l (H.out.kept k0 (by simp)) c0).mono ?_
  rintro e w1 ⟨rfl, k1⟩
  have c1 := k1.cell c0 (by simp)
  have k01 := k0.trans k1
  have hn1 := k01.cell hn (by simp)
  have hx1 := k01.cell hx (by simp)
  have hf1 := (k01.frozen (World.block_lt_of_cell? w _ hx) (by simp)).trans hf
  have p1 := HPB.out.kept k01 (by simp)
  have K01 := Lib.hid k01; clear k01
  clear k0 k1 c0 hm1 hn hx hf
  have hm2 := meth_LiteralNull pb w1.drew (p1.kept (Kept.refl [] w1).drew (by simp))
  have P1 := Lib.hid p1; clear p1
  have ho2 := open_LiteralNull xb w1.drew
  have ta_Apply := fun w : World => ta_no_Apply 29 (.pointer (some ⟨xb, 0, none⟩)) 23 w (by decide)
  have ta_ApplyBrace := fun w : World => ta_no_ApplyBrace 29 (.pointer (some ⟨xb, 0, none⟩)) 23 w (by decide)
  have ta_Array := fun w : World => ta_no_Array 29 (.pointer (some ⟨xb, 0, none⟩)) 23 w (by decide)
  have ta_ArrayComp := fun w : World => ta_no_ArrayComp 29 (.pointer (some ⟨xb, 0, none⟩)) 23 w (by decide)
  have ta_Assert := fun w : World => ta_no_Assert 29 (.pointer (some ⟨xb, 0, none⟩)) 23 w (by decide)
  have ta_Binary := fun w : World => ta_no_Binary 29 (.pointer (some ⟨xb, 0, none⟩)) 23 w (by decide)
  have ta_Conditional := fun w : World => ta_no_Conditional 29 (.pointer (some ⟨xb, 0, none⟩)) 23 w (by decide)
  have ta_Dollar := fun w : World => ta_no_Dollar 29 (.pointer (some ⟨xb, 0, none⟩)) 23 w (by decide)
  have ta_Error := fun w : World => ta_no_Error 29 (.pointer (some ⟨xb, 0, none⟩)) 23 w (by decide)
  have ta_Function := fun w : World => ta_no_Function 29 (.pointer (some ⟨xb, 0, none⟩)) 23 w (by decide)
  have ta_Import := fun w : World => ta_no_Import 29 (.pointer (some ⟨xb, 0, none⟩)) 23 w (by decide)
  have ta_ImportStr := fun w : World => ta_no_ImportStr 29 (.pointer (some ⟨xb, 0, none⟩)) 23 w (by decide)
  have ta_ImportBin := fun w : World => ta_no_ImportBin 29 (.pointer (some ⟨xb, 0, none⟩)) 23 w (by decide)
  have ta_Index := fun w : World => ta_no_Index 29 (.pointer (some ⟨xb, 0, none⟩)) 23 w (by decide)
  have ta_InSuper := fun w : World => ta_no_InSuper 29 (.pointer (some ⟨xb, 0, none⟩)) 23 w (by decide)
  have ta_LiteralBoolean := fun w : World => ta_no_LiteralBoolean 29 (.pointer (some ⟨xb, 0, none⟩)) 23 w (by decide)
  have ta_y := fun w : World => ta_yes_LiteralNull (.pointer (some ⟨xb, 0, none⟩)) 23 w
  have hself : w1.setCell ⟨xb, 0, none⟩ (.slice fa fn fc) = w1 := setCell_self hx1
  go_wp2_with fail
  go_still_tail 6, (by kernel_rfl)
  still_call (openFodder_still _ xb 0)
  repeat still_step
  refine wpStill_nil ?_
  go_wp2_with fail
  refine (pass_LiteralNull _ _ _ _ _).mono ?_
  rintro e w' ⟨rfl, rfl⟩
  go_wp2_with fail
  go_end0
  exact ⟨rfl, K01.out.drew⟩
end Go.Proofs.YtaedhbpfmjiheaaFmt
