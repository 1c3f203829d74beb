/- The contracts of the pass's ObjectField at fields whose fodders are empty. -/
import Derived.Test.YtepipmjcfnncdaaFmtVisSP
import Derived.Test.YtepipmjcfnncdaaFmtVisVP
namespace Go.Proofs.YtepipmjcfnncdaaFmt
open Go.ChangeShapes Go.WideShapes Go.ChangeAt Go.RowKit

set_option maxRecDepth 100000 in
theorem meth_FieldParams (pb : Nat) (w : World) (h : IsPass w pb) : (method 441 157 (.pointer (some ⟨pb, 0, none⟩)) "FieldParams").run Tryf.prog w = .ok (141, .pointer (some ⟨pb, 0, none⟩)) w :=
  meth_base w pb h _ _ 440 (by kernel_rfl) base_field
/-- At nb lies an object field of that kind, without a method; its fodders are empty; its body is a variable at xb. -/
structure Fld (w : World) (base nb xb : Nat) (kind : Int) (idv e1 f1 f2 f4 : Value) : Prop where
  c0 : w.cell? ⟨nb, 0, none⟩ = some (.pointer none)
  c1 : w.cell? ⟨nb, 1, none⟩ = some idv
  c2 : w.cell? ⟨nb, 2, none⟩ = some f2
  c3 : w.cell? ⟨nb, 3, none⟩ = some f1
  c4 : w.cell? ⟨nb, 4, none⟩ = some f4
  c5 : w.cell? ⟨nb, 5, none⟩ = some (.slice none 0 0)
  c6 : w.cell? ⟨nb, 6, none⟩ = some e1
  c7 : w.cell? ⟨nb, 7, none⟩ = some (.iface 58 (.pointer (some ⟨xb, 0, none⟩)))
  c15 : w.cell? ⟨nb, 15, none⟩ = some (.int .i64 kind)
  fr : ∀ o, w.frozen? ⟨nb, o, none⟩ = false
  h1 : Fod w base f1 []
  h2 : Fod w base f2 []
  h4 : Fod w base f4 []
  cx : w.cell? ⟨xb, 1, none⟩ = some (.slice none 0 0)
  fx : w.frozen? ⟨xb, 1, none⟩ = false
  nx : xb ≠ nb

theorem Fld.kept {w w' : World} {base nb xb : Nat} {kind : Int} {idv e1 f1 f2 f4 : Value} (h : Fld w base nb xb kind idv e1 f1 f2 f4) (q : Kept [] w w') : Fld w' base nb xb kind idv e1 f1 f2 f4 where
  c0 := q.cell h.c0 (by simp)
  c1 := q.cell h.c1 (by simp)
  c2 := q.cell h.c2 (by simp)
  c3 := q.cell h.c3 (by simp)
  c4 := q.cell h.c4 (by simp)
  c5 := q.cell h.c5 (by simp)
  c6 := q.cell h.c6 (by simp)
  c7 := q.cell h.c7 (by simp)
  c15 := q.cell h.c15 (by simp)
  fr := fun o => (q.frozen (p := ⟨nb, o, none⟩) (show nb < w.heap.size from World.block_lt_of_cell? w ⟨nb, 0, none⟩ h.c0) (by simp)).trans (h.fr o)
  h1 := h.h1.kept q (by simp)
  h2 := h.h2.kept q (by simp)
  h4 := h.h4.kept q (by simp)
  cx := q.cell h.cx (by simp)
  fx := (q.frozen (World.block_lt_of_cell? w _ h.cx) (by simp)).trans h.fx
  nx := h.nx

set_option maxRecDepth 100000 in
theorem fieldParams_nil (w : World) (nb : Nat) (r p ctx : Value) (c0 : w.cell? ⟨nb, 0, none⟩ = some (.pointer none)) :
    Calls Tryf.prog 141 #[r, p, .pointer (some ⟨nb, 0, none⟩), ctx] w fun e w' => e = .returned (.tuple #[]) ∧ Kept [] w w' := by
  go_enter Tryf.func141, Tryf.ntmps141
  go_wp2_with fail
  go_end0
  exact ⟨rfl, Kept.refl _ _⟩

set_option maxRecDepth 100000 in
set_option maxHeartbeats 8000000 in
theorem base_Field_Id (w : World) (base : Nat) (r : Value) (pb nb xb : Nat) (hpb : IsPass w pb) (ctx : Value) (idv f1 f2 f4 : Value) (h : Fld w base nb xb 1 idv (.nilIface) f1 f2 f4) :
    Calls Tryf.prog 95 #[r, .iface 157 (.pointer (some ⟨pb, 0, none⟩)), .pointer (some ⟨nb, 0, none⟩), ctx] w fun e w' => e = .returned (.tuple #[]) ∧ Kept [] w w' := by
  have HPB := Lib.hid hpb; clear hpb
  have c15 := h.c15
  have fx := h.fx
  have C0 := Lib.hid h.c0
  have C2 := Lib.hid h.c2
  have C3 := Lib.hid h.c3
  have C4 := Lib.hid h.c4
  have C5 := Lib.hid h.c5
  have C6 := Lib.hid h.c6
  have C7 := Lib.hid h.c7
  have H1 := Lib.hid h.h1
  have H2 := Lib.hid h.h2
  have H4 := Lib.hid h.h4
  have CX := Lib.hid h.cx
  clear h
  have H5 := Lib.hid (fod_nil w base)
  have hn1 := nilA_Fodder pb
  have hn2 := nilA_Visit pb
  go_enter Tryf.func95, Tryf.ntmps95
  have hm := meth_Fodder pb w.drew (HPB.out.kept (Kept.refl [] w).drew (by simp))
  go_wp2_with fail
  go_still_tail 9, (by kernel_rfl)
  go_wp2_with fail
  refine (passFodder _ base _ pb nb (3) (HPB.out.kept (Kept.refl [] w).drew (by simp)) _ f1 [] (H1.out.kept (Kept.refl [] w).drew (by simp)) ((Kept.refl [] w).drew.cell C3.out (by simp))).mono ?_
  rintro e w1 ⟨rfl, k⟩
  have k1 := (Kept.refl [] w).drew.trans k
  have K1 := Lib.hid k1; clear k1 k hm
  have hm := meth_FieldParams pb w1 (HPB.out.kept K1.out (by simp))
  go_wp2_with fail
  refine (fieldParams_nil _ nb _ _ _ (K1.out.cell C0.out (by simp))).mono ?_
  rintro e w2 ⟨rfl, k⟩
  have k2 := K1.out.trans k
  have K2 := Lib.hid k2; clear k2 k hm
  have hm := meth_Fodder pb w2.drew (HPB.out.kept K2.out.drew (by simp))
  go_wp2_with fail
  go_still_tail 9, (by kernel_rfl)
  go_wp2_with fail
  refine (passFodder _ base _ pb nb (4) (HPB.out.kept K2.out.drew (by simp)) _ f4 [] (H4.out.kept K2.out.drew (by simp)) (K2.out.drew.cell C4.out (by simp))).mono ?_
  rintro e w3 ⟨rfl, k⟩
  have k3 := K2.out.drew.trans k
  have K3 := Lib.hid k3; clear k3 k hm
  have hm := meth_Visit pb w3.drew (HPB.out.kept K3.out.drew (by simp))
  go_wp2_with fail
  go_still_tail 9, (by kernel_rfl)
  go_wp2_with fail
  refine (visit_Var _ base _ pb nb (7) xb (HPB.out.kept K3.out.drew (by simp)) _ (.slice none 0 0) [] (H5.out.kept K3.out.drew (by simp)) (K3.out.drew.cell C7.out (by simp)) (K3.out.drew.cell CX.out (by simp)) ((K3.out.drew.frozen (World.block_lt_of_cell? w _ CX.out) (by simp)).trans fx)).mono ?_
  rintro e w4 ⟨rfl, k⟩
  have k4 := K3.out.drew.trans k
  have K4 := Lib.hid k4; clear k4 k hm
  have hm := meth_Fodder pb w4.drew (HPB.out.kept K4.out.drew (by simp))
  go_wp2_with fail
  go_still_tail 9, (by kernel_rfl)
  go_wp2_with fail
  refine (passFodder _ base _ pb nb (5) (HPB.out.kept K4.out.drew (by simp)) _ (.slice none 0 0) [] (H5.out.kept K4.out.drew (by simp)) (K4.out.drew.cell C5.out (by simp))).mono ?_
  rintro e w5 ⟨rfl, k⟩
  have k5 := K4.out.drew.trans k
  have K5 := Lib.hid k5; clear k5 k hm
  go_wp2_with fail
  go_end0
  exact ⟨rfl, K5.out⟩

set_option maxRecDepth 100000 in
set_option maxHeartbeats 8000000 in
theorem base_Field_StrV (w : World) (base : Nat) (r : Value) (pb nb xb yb : Nat) (hpb : IsPass w pb) (ctx : Value) (idv f1 f2 f4 vy : Value) (h : Fld w base nb xb 3 idv (.iface 58 (.pointer (some ⟨yb, 0, none⟩))) f1 f2 f4) (hy : Fod w base vy []) (cy : w.cell? ⟨yb, 1, none⟩ = some vy) (fy : w.frozen? ⟨yb, 1, none⟩ = false) :
    Calls Tryf.prog 95 #[r, .iface 157 (.pointer (some ⟨pb, 0, none⟩)), .pointer (some ⟨nb, 0, none⟩), ctx] w fun e w' => e = .returned (.tuple #[]) ∧ Kept [] w w' := by
  have HPB := Lib.hid hpb; clear hpb
  have c15 := h.c15
  have fx := h.fx
  have C0 := Lib.hid h.c0
  have C2 := Lib.hid h.c2
  have C3 := Lib.hid h.c3
  have C4 := Lib.hid h.c4
  have C5 := Lib.hid h.c5
  have C6 := Lib.hid h.c6
  have C7 := Lib.hid h.c7
  have H1 := Lib.hid h.h1
  have H2 := Lib.hid h.h2
  have H4 := Lib.hid h.h4
  have CX := Lib.hid h.cx
  have HY := Lib.hid hy; clear hy
  have CY := Lib.hid cy; clear cy
  clear h
  have H5 := Lib.hid (fod_nil w base)
  have hn1 := nilA_Fodder pb
  have hn2 := nilA_Visit pb
  go_enter Tryf.func95, Tryf.ntmps95
  have hm := meth_Visit pb w.drew (HPB.out.kept (Kept.refl [] w).drew (by simp))
  go_wp2_with fail
  go_still_tail 9, (by kernel_rfl)
  go_wp2_with fail
  refine (visit_Var _ base _ pb nb (6) yb (HPB.out.kept (Kept.refl [] w).drew (by simp)) _ vy [] (HY.out.kept (Kept.refl [] w).drew (by simp)) ((Kept.refl [] w).drew.cell C6.out (by simp)) ((Kept.refl [] w).drew.cell CY.out (by simp)) (((Kept.refl [] w).drew.frozen (World.block_lt_of_cell? w _ CY.out) (by simp)).trans fy)).mono ?_
  rintro e w1 ⟨rfl, k⟩
  have k1 := (Kept.refl [] w).drew.trans k
  have K1 := Lib.hid k1; clear k1 k hm
  have hm := meth_FieldParams pb w1 (HPB.out.kept K1.out (by simp))
  go_wp2_with fail
  refine (fieldParams_nil _ nb _ _ _ (K1.out.cell C0.out (by simp))).mono ?_
  rintro e w2 ⟨rfl, k⟩
  have k2 := K1.out.trans k
  have K2 := Lib.hid k2; clear k2 k hm
  have hm := meth_Fodder pb w2.drew (HPB.out.kept K2.out.drew (by simp))
  go_wp2_with fail
  go_still_tail 9, (by kernel_rfl)
  go_wp2_with fail
  refine (passFodder _ base _ pb nb (4) (HPB.out.kept K2.out.drew (by simp)) _ f4 [] (H4.out.kept K2.out.drew (by simp)) (K2.out.drew.cell C4.out (by simp))).mono ?_
  rintro e w3 ⟨rfl, k⟩
  have k3 := K2.out.drew.trans k
  have K3 := Lib.hid k3; clear k3 k hm
  have hm := meth_Visit pb w3.drew (HPB.out.kept K3.out.drew (by simp))
  go_wp2_with fail
  go_still_tail 9, (by kernel_rfl)
  go_wp2_with fail
  refine (visit_Var _ base _ pb nb (7) xb (HPB.out.kept K3.out.drew (by simp)) _ (.slice none 0 0) [] (H5.out.kept K3.out.drew (by simp)) (K3.out.drew.cell C7.out (by simp)) (K3.out.drew.cell CX.out (by simp)) ((K3.out.drew.frozen (World.block_lt_of_cell? w _ CX.out) (by simp)).trans fx)).mono ?_
  rintro e w4 ⟨rfl, k⟩
  have k4 := K3.out.drew.trans k
  have K4 := Lib.hid k4; clear k4 k hm
  have hm := meth_Fodder pb w4.drew (HPB.out.kept K4.out.drew (by simp))
  go_wp2_with fail
  go_still_tail 9, (by kernel_rfl)
  go_wp2_with fail
  refine (passFodder _ base _ pb nb (5) (HPB.out.kept K4.out.drew (by simp)) _ (.slice none 0 0) [] (H5.out.kept K4.out.drew (by simp)) (K4.out.drew.cell C5.out (by simp))).mono ?_
  rintro e w5 ⟨rfl, k⟩
  have k5 := K4.out.drew.trans k
  have K5 := Lib.hid k5; clear k5 k hm
  go_wp2_with fail
  go_end0
  exact ⟨rfl, K5.out⟩

set_option maxRecDepth 100000 in
set_option maxHeartbeats 8000000 in
theorem base_Field_StrL (w : World) (base : Nat) (r : Value) (pb nb xb yb : Nat) (hpb : IsPass w pb) (ctx : Value) (idv f1 f2 f4 vy : Value) (h : Fld w base nb xb 3 idv (.iface 25 (.pointer (some ⟨yb, 0, none⟩))) f1 f2 f4) (hy : Fod w base vy []) (cy : w.cell? ⟨yb, 3, none⟩ = some vy) (fy : w.frozen? ⟨yb, 3, none⟩ = false) :
    Calls Tryf.prog 95 #[r, .iface 157 (.pointer (some ⟨pb, 0, none⟩)), .pointer (some ⟨nb, 0, none⟩), ctx] w fun e w' => e = .returned (.tuple #[]) ∧ Kept [] w w' := by
  have HPB := Lib.hid hpb; clear hpb
  have c15 := h.c15
  have fx := h.fx
  have C0 := Lib.hid h.c0
  have C2 := Lib.hid h.c2
  have C3 := Lib.hid h.c3
  have C4 := Lib.hid h.c4
  have C5 := Lib.hid h.c5
  have C6 := Lib.hid h.c6
  have C7 := Lib.hid h.c7
  have H1 := Lib.hid h.h1
  have H2 := Lib.hid h.h2
  have H4 := Lib.hid h.h4
  have CX := Lib.hid h.cx
  have HY := Lib.hid hy; clear hy
  have CY := Lib.hid cy; clear cy
  clear h
  have H5 := Lib.hid (fod_nil w base)
  have hn1 := nilA_Fodder pb
  have hn2 := nilA_Visit pb
  go_enter Tryf.func95, Tryf.ntmps95
  have hm := meth_Visit pb w.drew (HPB.out.kept (Kept.refl [] w).drew (by simp))
  go_wp2_with fail
  go_still_tail 9, (by kernel_rfl)
  go_wp2_with fail
  refine (visit_LiteralString _ base _ pb nb (6) yb (HPB.out.kept (Kept.refl [] w).drew (by simp)) _ vy [] (HY.out.kept (Kept.refl [] w).drew (by simp)) ((Kept.refl [] w).drew.cell C6.out (by simp)) ((Kept.refl [] w).drew.cell CY.out (by simp)) (((Kept.refl [] w).drew.frozen (World.block_lt_of_cell? w _ CY.out) (by simp)).trans fy)).mono ?_
  rintro e w1 ⟨rfl, k⟩
  have k1 := (Kept.refl [] w).drew.trans k
  have K1 := Lib.hid k1; clear k1 k hm
  have hm := meth_FieldParams pb w1 (HPB.out.kept K1.out (by simp))
  go_wp2_with fail
  refine (fieldParams_nil _ nb _ _ _ (K1.out.cell C0.out (by simp))).mono ?_
  rintro e w2 ⟨rfl, k⟩
  have k2 := K1.out.trans k
  have K2 := Lib.hid k2; clear k2 k hm
  have hm := meth_Fodder pb w2.drew (HPB.out.kept K2.out.drew (by simp))
  go_wp2_with fail
  go_still_tail 9, (by kernel_rfl)
  go_wp2_with fail
  refine (passFodder _ base _ pb nb (4) (HPB.out.kept K2.out.drew (by simp)) _ f4 [] (H4.out.kept K2.out.drew (by simp)) (K2.out.drew.cell C4.out (by simp))).mono ?_
  rintro e w3 ⟨rfl, k⟩
  have k3 := K2.out.drew.trans k
  have K3 := Lib.hid k3; clear k3 k hm
  have hm := meth_Visit pb w3.drew (HPB.out.kept K3.out.drew (by simp))
  go_wp2_with fail
  go_still_tail 9, (by kernel_rfl)
  go_wp2_with fail
  refine (visit_Var _ base _ pb nb (7) xb (HPB.out.kept K3.out.drew (by simp)) _ (.slice none 0 0) [] (H5.out.kept K3.out.drew (by simp)) (K3.out.drew.cell C7.out (by simp)) (K3.out.drew.cell CX.out (by simp)) ((K3.out.drew.frozen (World.block_lt_of_cell? w _ CX.out) (by simp)).trans fx)).mono ?_
  rintro e w4 ⟨rfl, k⟩
  have k4 := K3.out.drew.trans k
  have K4 := Lib.hid k4; clear k4 k hm
  have hm := meth_Fodder pb w4.drew (HPB.out.kept K4.out.drew (by simp))
  go_wp2_with fail
  go_still_tail 9, (by kernel_rfl)
  go_wp2_with fail
  refine (passFodder _ base _ pb nb (5) (HPB.out.kept K4.out.drew (by simp)) _ (.slice none 0 0) [] (H5.out.kept K4.out.drew (by simp)) (K4.out.drew.cell C5.out (by simp))).mono ?_
  rintro e w5 ⟨rfl, k⟩
  have k5 := K4.out.drew.trans k
  have K5 := Lib.hid k5; clear k5 k hm
  go_wp2_with fail
  go_end0
  exact ⟨rfl, K5.out⟩

set_option maxRecDepth 100000 in
set_option maxHeartbeats 8000000 in
theorem base_Field_ExpV (w : World) (base : Nat) (r : Value) (pb nb xb yb : Nat) (hpb : IsPass w pb) (ctx : Value) (idv f1 f2 f4 vy : Value) (h : Fld w base nb xb 2 idv (.iface 58 (.pointer (some ⟨yb, 0, none⟩))) f1 f2 f4) (hy : Fod w base vy []) (cy : w.cell? ⟨yb, 1, none⟩ = some vy) (fy : w.frozen? ⟨yb, 1, none⟩ = false) :
    Calls Tryf.prog 95 #[r, .iface 157 (.pointer (some ⟨pb, 0, none⟩)), .pointer (some ⟨nb, 0, none⟩), ctx] w fun e w' => e = .returned (.tuple #[]) ∧ Kept [] w w' := by
  have HPB := Lib.hid hpb; clear hpb
  have c15 := h.c15
  have fx := h.fx
  have C0 := Lib.hid h.c0
  have C2 := Lib.hid h.c2
  have C3 := Lib.hid h.c3
  have C4 := Lib.hid h.c4
  have C5 := Lib.hid h.c5
  have C6 := Lib.hid h.c6
  have C7 := Lib.hid h.c7
  have H1 := Lib.hid h.h1
  have H2 := Lib.hid h.h2
  have H4 := Lib.hid h.h4
  have CX := Lib.hid h.cx
  have HY := Lib.hid hy; clear hy
  have CY := Lib.hid cy; clear cy
  clear h
  have H5 := Lib.hid (fod_nil w base)
  have hn1 := nilA_Fodder pb
  have hn2 := nilA_Visit pb
  go_enter Tryf.func95, Tryf.ntmps95
  have hm := meth_Fodder pb w.drew (HPB.out.kept (Kept.refl [] w).drew (by simp))
  go_wp2_with fail
  go_still_tail 9, (by kernel_rfl)
  go_wp2_with fail
  refine (passFodder _ base _ pb nb (3) (HPB.out.kept (Kept.refl [] w).drew (by simp)) _ f1 [] (H1.out.kept (Kept.refl [] w).drew (by simp)) ((Kept.refl [] w).drew.cell C3.out (by simp))).mono ?_
  rintro e w1 ⟨rfl, k⟩
  have k1 := (Kept.refl [] w).drew.trans k
  have K1 := Lib.hid k1; clear k1 k hm
  have hm := meth_Visit pb w1.drew (HPB.out.kept K1.out.drew (by simp))
  go_wp2_with fail
  go_still_tail 9, (by kernel_rfl)
  go_wp2_with fail
  refine (visit_Var _ base _ pb nb (6) yb (HPB.out.kept K1.out.drew (by simp)) _ vy [] (HY.out.kept K1.out.drew (by simp)) (K1.out.drew.cell C6.out (by simp)) (K1.out.drew.cell CY.out (by simp)) ((K1.out.drew.frozen (World.block_lt_of_cell? w _ CY.out) (by simp)).trans fy)).mono ?_
  rintro e w2 ⟨rfl, k⟩
  have k2 := K1.out.drew.trans k
  have K2 := Lib.hid k2; clear k2 k hm
  have hm := meth_Fodder pb w2.drew (HPB.out.kept K2.out.drew (by simp))
  go_wp2_with fail
  go_still_tail 9, (by kernel_rfl)
  go_wp2_with fail
  refine (passFodder _ base _ pb nb (2) (HPB.out.kept K2.out.drew (by simp)) _ f2 [] (H2.out.kept K2.out.drew (by simp)) (K2.out.drew.cell C2.out (by simp))).mono ?_
  rintro e w3 ⟨rfl, k⟩
  have k3 := K2.out.drew.trans k
  have K3 := Lib.hid k3; clear k3 k hm
  have hm := meth_FieldParams pb w3 (HPB.out.kept K3.out (by simp))
  go_wp2_with fail
  refine (fieldParams_nil _ nb _ _ _ (K3.out.cell C0.out (by simp))).mono ?_
  rintro e w4 ⟨rfl, k⟩
  have k4 := K3.out.trans k
  have K4 := Lib.hid k4; clear k4 k hm
  have hm := meth_Fodder pb w4.drew (HPB.out.kept K4.out.drew (by simp))
  go_wp2_with fail
  go_still_tail 9, (by kernel_rfl)
  go_wp2_with fail
  refine (passFodder _ base _ pb nb (4) (HPB.out.kept K4.out.drew (by simp)) _ f4 [] (H4.out.kept K4.out.drew (by simp)) (K4.out.drew.cell C4.out (by simp))).mono ?_
  rintro e w5 ⟨rfl, k⟩
  have k5 := K4.out.drew.trans k
  have K5 := Lib.hid k5; clear k5 k hm
  have hm := meth_Visit pb w5.drew (HPB.out.kept K5.out.drew (by simp))
  go_wp2_with fail
  go_still_tail 9, (by kernel_rfl)
  go_wp2_with fail
  refine (visit_Var _ base _ pb nb (7) xb (HPB.out.kept K5.out.drew (by simp)) _ (.slice none 0 0) [] (H5.out.kept K5.out.drew (by simp)) (K5.out.drew.cell C7.out (by simp)) (K5.out.drew.cell CX.out (by simp)) ((K5.out.drew.frozen (World.block_lt_of_cell? w _ CX.out) (by simp)).trans fx)).mono ?_
  rintro e w6 ⟨rfl, k⟩
  have k6 := K5.out.drew.trans k
  have K6 := Lib.hid k6; clear k6 k hm
  have hm := meth_Fodder pb w6.drew (HPB.out.kept K6.out.drew (by simp))
  go_wp2_with fail
  go_still_tail 9, (by kernel_rfl)
  go_wp2_with fail
  refine (passFodder _ base _ pb nb (5) (HPB.out.kept K6.out.drew (by simp)) _ (.slice none 0 0) [] (H5.out.kept K6.out.drew (by simp)) (K6.out.drew.cell C5.out (by simp))).mono ?_
  rintro e w7 ⟨rfl, k⟩
  have k7 := K6.out.drew.trans k
  have K7 := Lib.hid k7; clear k7 k hm
  go_wp2_with fail
  go_end0
  exact ⟨rfl, K7.out⟩

end Go.Proofs.YtepipmjcfnncdaaFmt
