/- The contract of the pass's ForSpec at one level without conditions. -/
import Derived.Test.YtnfhhmadkiogbaaFmtVisN
namespace Go.Proofs.YtnfhhmadkiogbaaFmt
open Go.ChangeShapes Go.WideShapes Go.ChangeAt Go.RowKit

set_option maxRecDepth 100000 in
theorem meth_ForSpec (pb : Nat) (w : World) (h : IsPass w pb) : (method 361 61 (.pointer (some ⟨pb, 0, none⟩)) "ForSpec").run Tryf.prog w = .ok (59, .pointer (some ⟨pb, 0, none⟩)) w :=
  meth_base w pb h _ _ 360 (by kernel_rfl) base_field
set_option maxRecDepth 100000 in
theorem nilA_ForSpec (pb : Nat) (w : World) : (nilAhead 361 61 (.pointer (some ⟨pb, 0, none⟩)) "ForSpec").run Tryf.prog w = .ok (some false) w := by kernel_rfl

set_option maxRecDepth 100000 in
set_option maxHeartbeats 4000000 in
theorem forSpec_one (w : World) (base : Nat) (r : Value) (pb sb so eb : Nat) (hpb : IsPass w pb) (ctx : Value) (v0 v1 v6 ve : Value) (l0 l1 l6 le : List FE) (ca : Option Addr) (cc : Nat)
    (h0 : Fod w base v0 l0) (h1 : Fod w base v1 l1) (h6 : Fod w base v6 l6) (he : Fod w base ve le)
    (c0 : w.cell? ⟨sb, so, none⟩ = some v0) (c1 : w.cell? ⟨sb, so + 1, none⟩ = some v1) (c2 : w.cell? ⟨sb, so + 2, none⟩ = some (.slice ca 0 cc)) (c3 : w.cell? ⟨sb, so + 3, none⟩ = some (.pointer none))
    (c4 : w.cell? ⟨sb, so + 4, none⟩ = some (.iface 27 (.pointer (some ⟨eb, 0, none⟩)))) (c6 : w.cell? ⟨sb, so + 6, none⟩ = some v6)
    (ce : w.cell? ⟨eb, 0, none⟩ = some ve) (fe : w.frozen? ⟨eb, 0, none⟩ = false) :
    Calls Tryf.prog 59 #[r, .iface 61 (.pointer (some ⟨pb, 0, none⟩)), .pointer (some ⟨sb, so, none⟩), ctx] w fun e w' => e = .returned (.tuple #[]) ∧ Kept [] w w' := by
  have HPB := Lib.hid hpb; clear hpb
  have H0 := Lib.hid h0; clear h0
  have H1 := Lib.hid h1; clear h1
  have H6 := Lib.hid h6; clear h6
  have HE := Lib.hid he; clear he
  have C0 := Lib.hid c0; clear c0
  have C1 := Lib.hid c1; clear c1
  have C4 := Lib.hid c4; clear c4
  have C6 := Lib.hid c6; clear c6
  have CE := Lib.hid ce; clear ce
  have hn1 := nilA_Fodder pb
  have hn2 := nilA_Visit pb
  go_enter Tryf.func59, Tryf.ntmps59
  have hm := meth_Fodder pb w.drew (HPB.out.kept (Kept.refl [] w).drew (by simp))
  go_wp2_with fail
  go_still_tail 9, (by kernel_rfl)
  go_wp2_with fail
  refine (passFodder _ base _ pb sb (so) (HPB.out.kept (Kept.refl [] w).drew (by simp)) _ v0 l0 (H0.out.kept (Kept.refl [] w).drew (by simp)) ((Kept.refl [] w).drew.cell C0.out (by simp))).mono ?_
  rintro e w1 ⟨rfl, k⟩
  have k1 := (Kept.refl [] w).drew.trans k
  have K1 := Lib.hid k1; clear k1 k hm
  have hm := meth_Fodder pb w1.drew (HPB.out.kept K1.out.drew (by simp))
  go_wp2_with fail
  go_still_tail 9, (by kernel_rfl)
  go_wp2_with fail
  refine (passFodder _ base _ pb sb (so + 1) (HPB.out.kept K1.out.drew (by simp)) _ v1 l1 (H1.out.kept K1.out.drew (by simp)) (K1.out.drew.cell C1.out (by simp))).mono ?_
  rintro e w2 ⟨rfl, k⟩
  have k2 := K1.out.drew.trans k
  have K2 := Lib.hid k2; clear k2 k hm
  have hm := meth_Fodder pb w2.drew (HPB.out.kept K2.out.drew (by simp))
  go_wp2_with fail
  go_still_tail 9, (by kernel_rfl)
  go_wp2_with fail
  refine (passFodder _ base _ pb sb (so + 6) (HPB.out.kept K2.out.drew (by simp)) _ v6 l6 (H6.out.kept K2.out.drew (by simp)) (K2.out.drew.cell C6.out (by simp))).mono ?_
  rintro e w3 ⟨rfl, k⟩
  have k3 := K2.out.drew.trans k
  have K3 := Lib.hid k3; clear k3 k hm
  have hm := meth_Visit pb w3.drew (HPB.out.kept K3.out.drew (by simp))
  go_wp2_with fail
  go_still_tail 9, (by kernel_rfl)
  go_wp2_with fail
  refine (visit_LiteralNull _ base _ pb sb (so + 4) eb (HPB.out.kept K3.out.drew (by simp)) _ ve le (HE.out.kept K3.out.drew (by simp)) (K3.out.drew.cell C4.out (by simp)) (K3.out.drew.cell CE.out (by simp)) ((K3.out.drew.frozen (World.block_lt_of_cell? w _ CE.out) (by simp)).trans fe)).mono ?_
  rintro e w4 ⟨rfl, k⟩
  have k4 := K3.out.drew.trans k
  have K4 := Lib.hid k4; clear k4 k hm
  have d4 := K4.out.cell c2 (by simp)
  go_wp2_with fail
  refine wp_loop_rounds 1 ?_
  rw [rounds_succ]
  go_wp2_with fail
  go_end0
  exact ⟨rfl, K4.out⟩

end Go.Proofs.YtnfhhmadkiogbaaFmt
