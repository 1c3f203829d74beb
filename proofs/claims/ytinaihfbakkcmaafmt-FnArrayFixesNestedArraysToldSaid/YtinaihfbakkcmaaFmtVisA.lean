/- The contract of the pass's Visit at an array of null literals. -/
import Derived.Test.YtinaihfbakkcmaaFmtArrN
namespace Go.Proofs.YtinaihfbakkcmaaFmt
open Go.ChangeShapes Go.WideShapes Go.ChangeAt Go.RowKit

set_option maxRecDepth 100000 in
theorem open_Array (xb : Nat) (w : World) : (method 366 53 (.pointer (some ⟨xb, 0, none⟩)) "OpenFodder").run Tryf.prog w = .ok (60, .pointer (some ⟨xb, 2, none⟩)) w := by kernel_rfl
set_option maxRecDepth 100000 in
theorem meth_Array (pb : Nat) (w : World) : (method 366 78 (.pointer (some ⟨pb, 0, none⟩)) "Array").run Tryf.prog w = .ok (28, .pointer (some ⟨pb, 0, none⟩)) w := by kernel_rfl

set_option maxRecDepth 100000 in
set_option maxHeartbeats 4000000 in
theorem visit_Array (w : World) (base : Nat) (r : Value) (pb qb no nb eb m : Nat) (ctx : Value) (tc : Bool) (vl vc : Value) (ll lc : List FE) (C : Nat → List FE) (h : ArrN w base nb eb m tc vl vc ll lc C) (hm : m ≤ 1048576) (hpb : IsPass w pb) (hpn : pb ≠ nb) (hpe : pb ≠ eb) (hp1 : vl.ownBlock ≠ some pb)
    (hn : w.cell? ⟨qb, no, none⟩ = some (.iface 53 (.pointer (some ⟨nb, 0, none⟩)))) (hx : w.cell? ⟨nb, 2, none⟩ = some (.slice none 0 0)) (hf : w.frozen? ⟨nb, 2, none⟩ = false)
    (hlen : ll.length + lc.length ≤ 1048570) (hbs : base ≤ w.heap.size) (hcl : ∀ x, lc[0]? = some x → x.k = 0 → x.cl = 0) :
    Calls Tryf.prog 67 #[r, .iface 78 (.pointer (some ⟨pb, 0, none⟩)), .pointer (some ⟨qb, no, none⟩), ctx] w fun e w' => e = .returned (.tuple #[]) ∧ ArrLeft w base nb eb m tc vl vc ll lc C w' := by
  have hm1 := meth_Fodder pb (w.alloc (.cells #[.slice none 0 0] 29)) (hpb.kept ((Kept.refl [] w).alloc _) (by simp))
  have H := Lib.hid h; clear h
  have HPB := Lib.hid hpb; clear hpb
  have HCL := Lib.hid hcl; clear hcl
  go_enter Tryf.func67, Tryf.ntmps67
  go_wp2_with fail
  refine (openFodder_base _ nb 2).mono ?_
  rintro e w' ⟨rfl, rfl⟩
  go_wp2_with fail
  have k0 : Kept [] w (w.alloc (.cells #[.slice none 0 0] 29)) := (Kept.refl [] w).alloc _
  have c0 : (w.alloc (.cells #[.slice none 0 0] 29)).cell? ⟨w.heap.size, 0, none⟩ = some (.slice none 0 0) := by simp
  refine (passFodder _ base _ pb w.heap.size 0 (HPB.out.kept k0 (by simp)) _ (.slice none 0 0) [] (fod_nil _ _) c0).mono ?_
  rintro e w1 ⟨rfl, k1⟩
  have c1 := k1.cell c0 (by simp)
  have k01 := k0.trans k1
  have hn1 := k01.cell hn (by simp)
  have hx1 := k01.cell hx (by simp)
  have hf1 := (k01.frozen (World.block_lt_of_cell? w _ hx) (by simp)).trans hf
  have p1 := HPB.out.kept k01 (by simp)
  have K01 := Lib.hid k01; clear k01
  clear k0 k1 c0 hm1 hn hx hf
  have hm2 := meth_Array pb w1.drew
  have P1 := Lib.hid p1; clear p1
  have ho2 := open_Array nb w1.drew
  have ta_Apply := fun w : World => ta_no_Apply 53 (.pointer (some ⟨nb, 0, none⟩)) 44 w (by decide)
  have ta_ApplyBrace := fun w : World => ta_no_ApplyBrace 53 (.pointer (some ⟨nb, 0, none⟩)) 44 w (by decide)
  have ta_y := fun w : World => ta_yes_Array (.pointer (some ⟨nb, 0, none⟩)) 44 w
  have hself : w1.setCell ⟨nb, 2, none⟩ (.slice none 0 0) = w1 := setCell_self hx1
  go_wp2_with fail
  go_still_tail 6, (by kernel_rfl)
  still_call (openFodder_still _ nb 2)
  repeat still_step
  refine wpStill_nil ?_
  go_wp2_with fail
  have q := K01.out.drew
  refine (fix_Array _ base nb eb m pb _ tc vl vc ll lc C (H.out.kept q (by simp)) hm (HPB.out.kept q (by simp)) hpn hpe hp1 hlen (Nat.le_trans hbs q.size) HCL.out).mono ?_
  rintro e w2 ⟨rfl, hA⟩
  have HA := Lib.hid (hA.below q); clear hA q
  go_wp2_with fail
  go_end0
  exact ⟨rfl, HA.out⟩
end Go.Proofs.YtinaihfbakkcmaaFmt
