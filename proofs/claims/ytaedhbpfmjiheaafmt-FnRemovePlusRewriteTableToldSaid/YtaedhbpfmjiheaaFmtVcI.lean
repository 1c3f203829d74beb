/- The contract of the base's Visit at a node of type Index, whose own traversal keeps all that is. -/
import Derived.Test.YtaedhbpfmjiheaaFmtPass
namespace Go.Proofs.YtaedhbpfmjiheaaFmt
open Go.ChangeShapes Go.WideShapes Go.ChangeAt Go.RowKit

set_option maxRecDepth 100000 in
theorem open_Index (xb : Nat) (w : World) : (method 360 74 (.pointer (some ⟨xb, 0, none⟩)) "OpenFodder").run Tryf.prog w = .ok (38, .pointer (some ⟨xb, 5, none⟩)) w := by kernel_rfl
set_option maxRecDepth 100000 in
theorem meth_Index (pb : Nat) (w : World) (h : IsPass w pb) : (method 360 55 (.pointer (some ⟨pb, 0, none⟩)) "Index").run Tryf.prog w = .ok (58, .pointer (some ⟨pb, 0, none⟩)) w :=
  meth_base w pb h _ _ 359 (by kernel_rfl) base_field

set_option maxRecDepth 100000 in
set_option maxHeartbeats 4000000 in
theorem visit_Index (w : World) (base : Nat) (r : Value) (pb nb no xb : Nat) (hpb : IsPass w pb) (ctx : Value) (fv : Value) (l : List FE) (h : Fod w base fv l)
    (hn : w.cell? ⟨nb, no, none⟩ = some (.iface 74 (.pointer (some ⟨xb, 0, none⟩)))) (hx : w.cell? ⟨xb, 5, none⟩ = some fv) (hf : w.frozen? ⟨xb, 5, none⟩ = false)
    (hin : ∀ w2 : World, Kept [] w w2 → Calls Tryf.prog 58 #[.pointer (some ⟨pb, 0, none⟩), .iface 55 (.pointer (some ⟨pb, 0, none⟩)), .pointer (some ⟨xb, 0, none⟩), ctx] w2 fun e w' => e = .returned (.tuple #[]) ∧ Kept [] w2 w') :
    Calls Tryf.prog 14 #[r, .iface 55 (.pointer (some ⟨pb, 0, none⟩)), .pointer (some ⟨nb, no, none⟩), ctx] w fun e w' => e = .returned (.tuple #[]) ∧ Kept [] w w' := by
  obtain ⟨fa, fn, fc, rfl⟩ := h.isSlice
  have hm1 := meth_Fodder pb (w.alloc (.cells #[.slice fa fn fc] 26)) (hpb.kept ((Kept.refl [] w).alloc _) (by simp))
  have H := Lib.hid h; clear h
  have HIN := Lib.hid hin; clear hin
  have HPB := Lib.hid hpb; clear hpb
  go_enter Tryf.func14, Tryf.ntmps14
  go_wp2_with fail
  refine (openFodder_base _ xb 5).mono ?_
  rintro e w' ⟨rfl, rfl⟩
  go_wp2_with fail
  have k0 : Kept [] w (w.alloc (.cells #[.slice fa fn fc] 26)) := (Kept.refl [] w).alloc _
  have c0 : (w.alloc (.cells #[.slice fa fn fc] 26)).cell? ⟨w.heap.size, 0, none⟩ = some (.slice fa fn fc) := by simp
  refine (passFodder _ base _ pb w.heap.size 0 (HPB.out.kept k0 (by simp)) _ (.slice fa fn fc) l (H.out.kept k0 (by simp)) c0).mono ?_
  rintro e w1 ⟨rfl, k1⟩
  have c1 := k1.cell c0 (by simp)
  have k01 := k0.trans k1
  have hn1 := k01.cell hn (by simp)
  have hx1 := k01.cell hx (by simp)
  have hf1 := (k01.frozen (World.block_lt_of_cell? w _ hx) (by simp)).trans hf
  have p1 := HPB.out.kept k01 (by simp)
  have K01 := Lib.hid k01; clear k01
  clear k0 k1 c0 hm1 hn hx hf
  have hm2 := meth_Index pb w1.drew (p1.kept (Kept.refl [] w1).drew (by simp))
  have P1 := Lib.hid p1; clear p1
  have ho2 := open_Index xb w1.drew
  have ta_Apply := fun w : World => ta_no_Apply 74 (.pointer (some ⟨xb, 0, none⟩)) 23 w (by decide)
  have ta_ApplyBrace := fun w : World => ta_no_ApplyBrace 74 (.pointer (some ⟨xb, 0, none⟩)) 23 w (by decide)
  have ta_Array := fun w : World => ta_no_Array 74 (.pointer (some ⟨xb, 0, none⟩)) 23 w (by decide)
  have ta_ArrayComp := fun w : World => ta_no_ArrayComp 74 (.pointer (some ⟨xb, 0, none⟩)) 23 w (by decide)
  have ta_Assert := fun w : World => ta_no_Assert 74 (.pointer (some ⟨xb, 0, none⟩)) 23 w (by decide)
  have ta_Binary := fun w : World => ta_no_Binary 74 (.pointer (some ⟨xb, 0, none⟩)) 23 w (by decide)
  have ta_Conditional := fun w : World => ta_no_Conditional 74 (.pointer (some ⟨xb, 0, none⟩)) 23 w (by decide)
  have ta_Dollar := fun w : World => ta_no_Dollar 74 (.pointer (some ⟨xb, 0, none⟩)) 23 w (by decide)
  have ta_Error := fun w : World => ta_no_Error 74 (.pointer (some ⟨xb, 0, none⟩)) 23 w (by decide)
  have ta_Function := fun w : World => ta_no_Function 74 (.pointer (some ⟨xb, 0, none⟩)) 23 w (by decide)
  have ta_Import := fun w : World => ta_no_Import 74 (.pointer (some ⟨xb, 0, none⟩)) 23 w (by decide)
  have ta_ImportStr := fun w : World => ta_no_ImportStr 74 (.pointer (some ⟨xb, 0, none⟩)) 23 w (by decide)
  have ta_ImportBin := fun w : World => ta_no_ImportBin 74 (.pointer (some ⟨xb, 0, none⟩)) 23 w (by decide)
  have ta_y := fun w : World => ta_yes_Index (.pointer (some ⟨xb, 0, none⟩)) 23 w
  have hself : w1.setCell ⟨xb, 5, none⟩ (.slice fa fn fc) = w1 := setCell_self hx1
  go_wp2_with fail
  go_still_tail 6, (by kernel_rfl)
  still_call (openFodder_still _ xb 5)
  repeat still_step
  refine wpStill_nil ?_
  go_wp2_with fail
  refine (HIN.out _ K01.out.drew).mono ?_
  rintro e w2 ⟨rfl, k2⟩
  have K2 := Lib.hid k2; clear k2
  go_wp2_with fail
  go_end0
  exact ⟨rfl, K01.out.drew.trans K2.out⟩
end Go.Proofs.YtaedhbpfmjiheaaFmt
