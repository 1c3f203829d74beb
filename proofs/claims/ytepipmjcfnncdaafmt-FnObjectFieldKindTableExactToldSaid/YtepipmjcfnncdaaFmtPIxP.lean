/- The contracts of the pass's Index at a variable indexed by an id, or by a string literal. -/
import Derived.Test.YtepipmjcfnncdaaFmtVisSP
import Derived.Test.YtepipmjcfnncdaaFmtVisVP
namespace Go.Proofs.YtepipmjcfnncdaaFmt
open Go.ChangeShapes Go.WideShapes Go.ChangeAt Go.RowKit

set_option maxRecDepth 100000 in
set_option maxHeartbeats 4000000 in
theorem base_Index_id (w : World) (base : Nat) (r : Value) (pb nb tb ib : Nat) (hpb : IsPass w pb) (ctx : Value) (vt v3 : Value) (lt l3 : List FE) (ht : Fod w base vt lt) (h3 : Fod w base v3 l3)
    (c0 : w.cell? ⟨nb, 0, none⟩ = some (.iface 58 (.pointer (some ⟨tb, 0, none⟩)))) (ct : w.cell? ⟨tb, 1, none⟩ = some vt) (ft : w.frozen? ⟨tb, 1, none⟩ = false) (c3 : w.cell? ⟨nb, 3, none⟩ = some v3) (c4 : w.cell? ⟨nb, 4, none⟩ = some (.pointer (some ⟨ib, 0, none⟩))) :
    Calls Tryf.prog 85 #[r, .iface 157 (.pointer (some ⟨pb, 0, none⟩)), .pointer (some ⟨nb, 0, none⟩), ctx] w fun e w' => e = .returned (.tuple #[]) ∧ Kept [] w w' := by
  have HPB := Lib.hid hpb; clear hpb
  have HT := Lib.hid ht; clear ht
  have H3 := Lib.hid h3; clear h3
  have C0 := Lib.hid c0; clear c0
  have CT := Lib.hid ct; clear ct
  have C3 := Lib.hid c3; clear c3
  have hn1 := nilA_Fodder pb
  have hn2 := nilA_Visit pb
  go_enter Tryf.func85, Tryf.ntmps85
  have hm := meth_Visit pb w.drew (HPB.out.kept (Kept.refl [] w).drew (by simp))
  go_wp2_with fail
  go_still_tail 9, (by kernel_rfl)
  go_wp2_with fail
  refine (visit_Var _ base _ pb nb (0) tb (HPB.out.kept (Kept.refl [] w).drew (by simp)) _ vt lt (HT.out.kept (Kept.refl [] w).drew (by simp)) ((Kept.refl [] w).drew.cell C0.out (by simp)) ((Kept.refl [] w).drew.cell CT.out (by simp)) (((Kept.refl [] w).drew.frozen (World.block_lt_of_cell? w _ CT.out) (by simp)).trans ft)).mono ?_
  rintro e w1 ⟨rfl, k⟩
  have k1 := (Kept.refl [] w).drew.trans k
  have K1 := Lib.hid k1; clear k1 k hm
  have hm := meth_Fodder pb w1.drew (HPB.out.kept K1.out.drew (by simp))
  go_wp2_with fail
  go_still_tail 9, (by kernel_rfl)
  go_wp2_with fail
  refine (passFodder _ base _ pb nb (3) (HPB.out.kept K1.out.drew (by simp)) _ v3 l3 (H3.out.kept K1.out.drew (by simp)) (K1.out.drew.cell C3.out (by simp))).mono ?_
  rintro e w2 ⟨rfl, k⟩
  have k2 := K1.out.drew.trans k
  have K2 := Lib.hid k2; clear k2 k hm
  have d2 := K2.out.cell c4 (by simp)
  go_wp2_with fail
  go_end0
  exact ⟨rfl, K2.out⟩

set_option maxRecDepth 100000 in
set_option maxHeartbeats 4000000 in
theorem base_Index_lit (w : World) (base : Nat) (r : Value) (pb nb tb lb : Nat) (hpb : IsPass w pb) (ctx : Value) (vt v3 vl v2 : Value) (lt l3 ll l2 : List FE) (ht : Fod w base vt lt) (h3 : Fod w base v3 l3) (hl : Fod w base vl ll) (h2 : Fod w base v2 l2)
    (c0 : w.cell? ⟨nb, 0, none⟩ = some (.iface 58 (.pointer (some ⟨tb, 0, none⟩)))) (ct : w.cell? ⟨tb, 1, none⟩ = some vt) (ft : w.frozen? ⟨tb, 1, none⟩ = false) (c3 : w.cell? ⟨nb, 3, none⟩ = some v3) (c4 : w.cell? ⟨nb, 4, none⟩ = some (.pointer none))
    (c1 : w.cell? ⟨nb, 1, none⟩ = some (.iface 25 (.pointer (some ⟨lb, 0, none⟩)))) (cl : w.cell? ⟨lb, 3, none⟩ = some vl) (fl : w.frozen? ⟨lb, 3, none⟩ = false) (c2 : w.cell? ⟨nb, 2, none⟩ = some v2) :
    Calls Tryf.prog 85 #[r, .iface 157 (.pointer (some ⟨pb, 0, none⟩)), .pointer (some ⟨nb, 0, none⟩), ctx] w fun e w' => e = .returned (.tuple #[]) ∧ Kept [] w w' := by
  have HPB := Lib.hid hpb; clear hpb
  have HT := Lib.hid ht; clear ht
  have H3 := Lib.hid h3; clear h3
  have C0 := Lib.hid c0; clear c0
  have CT := Lib.hid ct; clear ct
  have C3 := Lib.hid c3; clear c3
  have HL := Lib.hid hl; clear hl
  have H2 := Lib.hid h2; clear h2
  have C1 := Lib.hid c1; clear c1
  have CL := Lib.hid cl; clear cl
  have C2 := Lib.hid c2; clear c2
  have hn1 := nilA_Fodder pb
  have hn2 := nilA_Visit pb
  go_enter Tryf.func85, Tryf.ntmps85
  have hm := meth_Visit pb w.drew (HPB.out.kept (Kept.refl [] w).drew (by simp))
  go_wp2_with fail
  go_still_tail 9, (by kernel_rfl)
  go_wp2_with fail
  refine (visit_Var _ base _ pb nb (0) tb (HPB.out.kept (Kept.refl [] w).drew (by simp)) _ vt lt (HT.out.kept (Kept.refl [] w).drew (by simp)) ((Kept.refl [] w).drew.cell C0.out (by simp)) ((Kept.refl [] w).drew.cell CT.out (by simp)) (((Kept.refl [] w).drew.frozen (World.block_lt_of_cell? w _ CT.out) (by simp)).trans ft)).mono ?_
  rintro e w1 ⟨rfl, k⟩
  have k1 := (Kept.refl [] w).drew.trans k
  have K1 := Lib.hid k1; clear k1 k hm
  have hm := meth_Fodder pb w1.drew (HPB.out.kept K1.out.drew (by simp))
  go_wp2_with fail
  go_still_tail 9, (by kernel_rfl)
  go_wp2_with fail
  refine (passFodder _ base _ pb nb (3) (HPB.out.kept K1.out.drew (by simp)) _ v3 l3 (H3.out.kept K1.out.drew (by simp)) (K1.out.drew.cell C3.out (by simp))).mono ?_
  rintro e w2 ⟨rfl, k⟩
  have k2 := K1.out.drew.trans k
  have K2 := Lib.hid k2; clear k2 k hm
  have d2 := K2.out.cell c4 (by simp)
  have hm := meth_Visit pb w2.drew (HPB.out.kept K2.out.drew (by simp))
  go_wp2_with fail
  go_still_tail 9, (by kernel_rfl)
  go_wp2_with fail
  refine (visit_LiteralString _ base _ pb nb (1) lb (HPB.out.kept K2.out.drew (by simp)) _ vl ll (HL.out.kept K2.out.drew (by simp)) (K2.out.drew.cell C1.out (by simp)) (K2.out.drew.cell CL.out (by simp)) ((K2.out.drew.frozen (World.block_lt_of_cell? w _ CL.out) (by simp)).trans fl)).mono ?_
  rintro e w3 ⟨rfl, k⟩
  have k3 := K2.out.drew.trans k
  have K3 := Lib.hid k3; clear k3 k hm
  have hm := meth_Fodder pb w3.drew (HPB.out.kept K3.out.drew (by simp))
  go_wp2_with fail
  go_still_tail 9, (by kernel_rfl)
  go_wp2_with fail
  refine (passFodder _ base _ pb nb (2) (HPB.out.kept K3.out.drew (by simp)) _ v2 l2 (H2.out.kept K3.out.drew (by simp)) (K3.out.drew.cell C2.out (by simp))).mono ?_
  rintro e w4 ⟨rfl, k⟩
  have k4 := K3.out.drew.trans k
  have K4 := Lib.hid k4; clear k4 k hm
  go_wp2_with fail
  go_end0
  exact ⟨rfl, K4.out⟩

end Go.Proofs.YtepipmjcfnncdaaFmt
