/- The contract of the pass's ArrayComp. -/
import Derived.Test.YtinaihfbakkcmaaFmtForS
namespace Go.Proofs.YtinaihfbakkcmaaFmt
open Go.ChangeShapes Go.WideShapes Go.ChangeAt Go.RowKit

set_option maxRecDepth 100000 in
set_option maxHeartbeats 4000000 in
theorem base_ArrayComp (w : World) (base : Nat) (r : Value) (pb nb bb eb : Nat) (hpb : IsPass w pb) (ctx : Value) (vb v1 v2 v3 v8 v9 ve : Value) (lb l1 l2 l3 l8 l9 le : List FE) (ca : Option Addr) (cc : Nat)
    (hb : Fod w base vb lb) (h1 : Fod w base v1 l1) (h2 : Fod w base v2 l2) (h3 : Fod w base v3 l3) (h8 : Fod w base v8 l8) (h9 : Fod w base v9 l9) (he : Fod w base ve le)
    (c0 : w.cell? ⟨nb, 0, none⟩ = some (.iface 27 (.pointer (some ⟨bb, 0, none⟩)))) (c1 : w.cell? ⟨nb, 1, none⟩ = some v1) (c2 : w.cell? ⟨nb, 2, none⟩ = some v2) (c3 : w.cell? ⟨nb, 3, none⟩ = some v3) (c4 : w.cell? ⟨nb, 4, none⟩ = some (.slice ca 0 cc)) (c5 : w.cell? ⟨nb, 5, none⟩ = some (.pointer none))
    (c6 : w.cell? ⟨nb, 6, none⟩ = some (.iface 27 (.pointer (some ⟨eb, 0, none⟩)))) (c8 : w.cell? ⟨nb, 8, none⟩ = some v8) (c9 : w.cell? ⟨nb, 9, none⟩ = some v9)
    (cb : w.cell? ⟨bb, 0, none⟩ = some vb) (fb : w.frozen? ⟨bb, 0, none⟩ = false) (ce : w.cell? ⟨eb, 0, none⟩ = some ve) (fe : w.frozen? ⟨eb, 0, none⟩ = false) :
    Calls Tryf.prog 36 #[r, .iface 78 (.pointer (some ⟨pb, 0, none⟩)), .pointer (some ⟨nb, 0, none⟩), ctx] w fun e w' => e = .returned (.tuple #[]) ∧ Kept [] w w' := by
  have HPB := Lib.hid hpb; clear hpb
  have HB := Lib.hid hb; clear hb
  have H1 := Lib.hid h1; clear h1
  have H2 := Lib.hid h2; clear h2
  have H3 := Lib.hid h3; clear h3
  have H8 := Lib.hid h8; clear h8
  have H9 := Lib.hid h9; clear h9
  have HE := Lib.hid he; clear he
  have C0 := Lib.hid c0; clear c0
  have C1 := Lib.hid c1; clear c1
  have C2 := Lib.hid c2; clear c2
  have C3 := Lib.hid c3; clear c3
  have C4 := Lib.hid c4; clear c4
  have C5 := Lib.hid c5; clear c5
  have C6 := Lib.hid c6; clear c6
  have C8 := Lib.hid c8; clear c8
  have C9 := Lib.hid c9; clear c9
  have CB := Lib.hid cb; clear cb
  have CE := Lib.hid ce; clear ce
  have hn1 := nilA_Fodder pb
  have hn2 := nilA_Visit pb
  have hn3 := nilA_ForSpec pb
  go_enter Tryf.func36, Tryf.ntmps36
  have hm := meth_Visit pb w.drew (HPB.out.kept (Kept.refl [] w).drew (by simp))
  go_wp2_with fail
  go_still_tail 9, (by kernel_rfl)
  go_wp2_with fail
  refine (visit_LiteralNull _ base _ pb nb (0) bb (HPB.out.kept (Kept.refl [] w).drew (by simp)) _ vb lb (HB.out.kept (Kept.refl [] w).drew (by simp)) ((Kept.refl [] w).drew.cell C0.out (by simp)) ((Kept.refl [] w).drew.cell CB.out (by simp)) (((Kept.refl [] w).drew.frozen (World.block_lt_of_cell? w _ CB.out) (by simp)).trans fb)).mono ?_
  rintro e w1 ⟨rfl, k⟩
  have k1 := (Kept.refl [] w).drew.trans k
  have K1 := Lib.hid k1; clear k1 k hm
  have hm := meth_Fodder pb w1.drew (HPB.out.kept K1.out.drew (by simp))
  go_wp2_with fail
  go_still_tail 9, (by kernel_rfl)
  go_wp2_with fail
  refine (passFodder _ base _ pb nb (1) (HPB.out.kept K1.out.drew (by simp)) _ v1 l1 (H1.out.kept K1.out.drew (by simp)) (K1.out.drew.cell C1.out (by simp))).mono ?_
  rintro e w2 ⟨rfl, k⟩
  have k2 := K1.out.drew.trans k
  have K2 := Lib.hid k2; clear k2 k hm
  have hm := meth_ForSpec pb w2.drew (HPB.out.kept K2.out.drew (by simp))
  go_wp2_with fail
  go_still_tail 9, (by kernel_rfl)
  go_wp2_with fail
  refine (forSpec_one _ base _ pb nb 2 eb (HPB.out.kept K2.out.drew (by simp)) _ v2 v3 v8 ve l2 l3 l8 le ca cc (H2.out.kept K2.out.drew (by simp)) (H3.out.kept K2.out.drew (by simp)) (H8.out.kept K2.out.drew (by simp)) (HE.out.kept K2.out.drew (by simp)) (K2.out.drew.cell C2.out (by simp)) (K2.out.drew.cell C3.out (by simp)) (K2.out.drew.cell C4.out (by simp)) (K2.out.drew.cell C5.out (by simp)) (K2.out.drew.cell C6.out (by simp)) (K2.out.drew.cell C8.out (by simp)) (K2.out.drew.cell CE.out (by simp)) ((K2.out.drew.frozen (World.block_lt_of_cell? w _ CE.out) (by simp)).trans fe)).mono ?_
  rintro e w3 ⟨rfl, k⟩
  have k3 := K2.out.drew.trans k
  have K3 := Lib.hid k3; clear k3 k hm
  have hm := meth_Fodder pb w3.drew (HPB.out.kept K3.out.drew (by simp))
  go_wp2_with fail
  go_still_tail 9, (by kernel_rfl)
  go_wp2_with fail
  refine (passFodder _ base _ pb nb (9) (HPB.out.kept K3.out.drew (by simp)) _ v9 l9 (H9.out.kept K3.out.drew (by simp)) (K3.out.drew.cell C9.out (by simp))).mono ?_
  rintro e w4 ⟨rfl, k⟩
  have k4 := K3.out.drew.trans k
  have K4 := Lib.hid k4; clear k4 k hm
  go_wp2_with fail
  go_end0
  exact ⟨rfl, K4.out⟩

end Go.Proofs.YtinaihfbakkcmaaFmt
