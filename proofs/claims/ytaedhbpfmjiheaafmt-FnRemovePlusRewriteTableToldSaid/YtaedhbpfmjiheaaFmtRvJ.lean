/- The contract of the base's Object without fields. -/
import Derived.Test.YtaedhbpfmjiheaaFmtVcO
namespace Go.Proofs.YtaedhbpfmjiheaaFmt
open Go.ChangeShapes Go.WideShapes Go.ChangeAt Go.RowKit

set_option maxRecDepth 100000 in
theorem base_ObjectFields (w : World) (r p ctx : Value) (xb : Nat) (fa : Option Addr) (fc : Nat) (hc : w.cell? ⟨xb, 0, none⟩ = some (.slice fa 0 fc)) :
    Calls Tryf.prog 78 #[r, p, .pointer (some ⟨xb, 0, none⟩), ctx] w fun e w' => e = .returned (.tuple #[]) ∧ w = w' := by
  go_enter Tryf.func78, Tryf.ntmps78
  go_wp2_with fail
  refine wp_loop_rounds 1 ?_
  rw [rounds_succ]
  go_wp2_with fail
  go_end0
  exact ⟨rfl, rfl⟩

set_option maxRecDepth 100000 in
theorem nilA_ObjectFields (pb : Nat) (w : World) : (nilAhead 360 55 (.pointer (some ⟨pb, 0, none⟩)) "ObjectFields").run Tryf.prog w = .ok (some false) w := by kernel_rfl
set_option maxRecDepth 100000 in
theorem meth_ObjectFields (pb : Nat) (w : World) (h : IsPass w pb) : (method 360 55 (.pointer (some ⟨pb, 0, none⟩)) "ObjectFields").run Tryf.prog w = .ok (78, .pointer (some ⟨pb, 0, none⟩)) w :=
  meth_base w pb h _ _ 359 (by kernel_rfl) base_field

set_option maxRecDepth 100000 in
set_option maxHeartbeats 4000000 in
theorem base_Object (w : World) (base : Nat) (r : Value) (pb xb : Nat) (hpb : IsPass w pb) (ctx : Value) (fv : Value) (l : List FE) (h : Fod w base fv l) (hc : w.cell? ⟨xb, 1, none⟩ = some fv)
    (fa : Option Addr) (fc : Nat) (hf : w.cell? ⟨xb, 0, none⟩ = some (.slice fa 0 fc)) :
    Calls Tryf.prog 64 #[r, .iface 55 (.pointer (some ⟨pb, 0, none⟩)), .pointer (some ⟨xb, 0, none⟩), ctx] w fun e w' => e = .returned (.tuple #[]) ∧ Kept [] w w' := by
  have HPB := Lib.hid hpb; clear hpb
  have H := Lib.hid h; clear h
  have HC := Lib.hid hc; clear hc
  have HF := Lib.hid hf; clear hf
  have n1 := nilA_ObjectFields pb
  have n2 := nilA_Fodder pb
  have hm := meth_ObjectFields pb w.drew (HPB.out.kept (Kept.refl [] w).drew (by simp))
  go_enter Tryf.func64, Tryf.ntmps64
  go_wp2_with fail
  go_still_tail 9, (by kernel_rfl)
  go_wp2_with fail
  refine (base_ObjectFields _ _ _ _ xb fa fc ((Kept.refl [] w).drew.cell HF.out (by simp))).mono ?_
  rintro e w1 ⟨rfl, e1⟩
  have k1 : Kept [] w w1 := e1 ▸ (Kept.refl [] w).drew
  have K1 := Lib.hid k1; clear k1 hm e1
  have hm := meth_Fodder pb w1.drew (HPB.out.kept K1.out.drew (by simp))
  go_wp2_with fail
  go_still_tail 9, (by kernel_rfl)
  go_wp2_with fail
  refine (passFodder _ base _ pb xb 1 (HPB.out.kept K1.out.drew (by simp)) _ fv l (H.out.kept K1.out.drew (by simp)) (K1.out.drew.cell HC.out (by simp))).mono ?_
  rintro e w2 ⟨rfl, k⟩
  have k2 := K1.out.drew.trans k
  have K2 := Lib.hid k2; clear k2 k hm
  go_wp2_with fail
  go_end0
  exact ⟨rfl, K2.out⟩
end Go.Proofs.YtaedhbpfmjiheaaFmt
