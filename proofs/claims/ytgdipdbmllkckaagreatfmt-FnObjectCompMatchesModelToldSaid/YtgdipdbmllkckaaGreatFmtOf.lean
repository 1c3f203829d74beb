/- The contracts of objectFieldOpenFodder and of the pass's ObjectField at fields in a row. -/
import Derived.Test.YtgdipdbmllkckaaGreatFmtFs
import Derived.Test.YtgdipdbmllkckaaGreatFmtVisS
import Derived.Test.YtgdipdbmllkckaaGreatFmtOpL
namespace Go.Proofs.YtgdipdbmllkckaaGreatFmt
open Go.ChangeShapes Go.WideShapes Go.ChangeAt Go.RowKit

set_option maxRecDepth 100000 in
theorem meth_FieldParams (pb : Nat) (w : World) (h : IsPass w pb) : (method 391 88 (.pointer (some ⟨pb, 0, none⟩)) "FieldParams").run Tryz.prog w = .ok (83, .pointer (some ⟨pb, 0, none⟩)) w :=
  meth_base w pb h _ _ 390 (by kernel_rfl) base_field
set_option maxRecDepth 100000 in
theorem nilA_FieldParams (pb : Nat) (w : World) : (nilAhead 391 88 (.pointer (some ⟨pb, 0, none⟩)) "FieldParams").run Tryz.prog w = .ok (some false) w := by kernel_rfl

/-- At (fb, fo) lies an object field of that kind, without a method; its body is a null literal at xb. -/
structure OFl (w : World) (fb fo xb : Nat) (kind : Int) (e1 v3 v4 : Value) : Prop where
  c0 : w.cell? ⟨fb, fo, none⟩ = some (.pointer none)
  c3 : w.cell? ⟨fb, fo + 3, none⟩ = some v3
  c4 : w.cell? ⟨fb, fo + 4, none⟩ = some v4
  c5 : w.cell? ⟨fb, fo + 5, none⟩ = some (.slice none 0 0)
  c6 : w.cell? ⟨fb, fo + 6, none⟩ = some e1
  c7 : w.cell? ⟨fb, fo + 7, none⟩ = some (nulI xb)
  c15 : w.cell? ⟨fb, fo + 15, none⟩ = some (.int .i64 kind)
  nx : AtNull w xb
def litS (y : Nat) : Value := .iface 68 (.pointer (some ⟨y, 0, none⟩))

set_option maxRecDepth 100000 in
theorem fieldParams_nil (w : World) (fb fo : Nat) (r p ctx : Value) (c0 : w.cell? ⟨fb, fo, none⟩ = some (.pointer none)) :
    Calls Tryz.prog 83 #[r, p, .pointer (some ⟨fb, fo, none⟩), ctx] w fun e w' => e = .returned (.tuple #[]) ∧ Kept [] w w' := by
  go_enter Tryz.func83, Tryz.ntmps83
  go_wp2_with fail
  go_end0
  exact ⟨rfl, Kept.refl _ _⟩

set_option maxRecDepth 100000 in
theorem openOf_id (w : World) (fb fo : Nat) (c15 : w.cell? ⟨fb, fo + 15, none⟩ = some (.int .i64 1)) :
    Calls Tryz.prog 34 #[.pointer (some ⟨fb, fo, none⟩)] w fun e w' => e = .returned (.pointer (some ⟨fb, fo + 3, none⟩)) ∧ w = w' := by
  go_enter Tryz.func34, Tryz.ntmps34
  go_wp2_with fail
  go_ret
  exact ⟨rfl, rfl⟩
set_option maxRecDepth 100000 in
theorem openOf_str (w : World) (fb fo y : Nat) (c15 : w.cell? ⟨fb, fo + 15, none⟩ = some (.int .i64 3)) (c6 : w.cell? ⟨fb, fo + 6, none⟩ = some (litS y)) :
    Calls Tryz.prog 34 #[.pointer (some ⟨fb, fo, none⟩)] w fun e w' => e = .returned (.pointer (some ⟨y, 3, none⟩)) ∧ w = w' := by
  unfold litS at c6
  go_enter Tryz.func34, Tryz.ntmps34
  go_wp2_with fail
  refine (openF_LiteralString _ y).mono ?_
  rintro e w' ⟨rfl, rfl⟩
  go_wp2_with fail
  go_ret
  exact ⟨rfl, rfl⟩

set_option maxRecDepth 100000 in
set_option maxHeartbeats 8000000 in
theorem baseField_id (w : World) (base : Nat) (r : Value) (pb fb fo xb : Nat) (hpb : IsPass w pb) (ctx : Value) (v3 v4 : Value) (l3 l4 : List FE) (h : OFl w fb fo xb 1 .nilIface v3 v4) (h3 : Fod w base v3 l3) (h4 : Fod w base v4 l4) :
    Calls Tryz.prog 98 #[r, .iface 88 (.pointer (some ⟨pb, 0, none⟩)), .pointer (some ⟨fb, fo, none⟩), ctx] w fun e w' => e = .returned (.tuple #[]) ∧ Kept [] w w' := by
  have HPB := Lib.hid hpb; clear hpb
  have c15 := h.c15
  have C0 := Lib.hid h.c0
  have C3 := Lib.hid h.c3
  have C4 := Lib.hid h.c4
  have C5 := Lib.hid h.c5
  have C6 := Lib.hid h.c6
  have C7 := Lib.hid h.c7
  have NX := Lib.hid h.nx
  have H3 := Lib.hid h3; clear h3
  have H4 := Lib.hid h4; clear h4
  clear h
  have hn1 := nilA_Fodder pb
  have hn2 := nilA_Visit pb
  go_enter Tryz.func98, Tryz.ntmps98
  have hm := meth_Fodder pb w.drew (HPB.out.kept (Kept.refl [] w).drew (by simp))
  go_wp2_with fail
  go_still_tail 9, (by kernel_rfl)
  go_wp2_with fail
  refine (passFodder _ base _ pb fb (fo + 3) (HPB.out.kept (Kept.refl [] w).drew (by simp)) _ v3 l3 (H3.out.kept (Kept.refl [] w).drew (by simp)) ((Kept.refl [] w).drew.cell C3.out (by simp))).mono ?_
  rintro e w1 ⟨rfl, k⟩
  have k' := Kept.trans ((Kept.refl [] w).drew) k
  have K_w1 := Lib.hid k'; clear k' k hm
  have hm := meth_FieldParams pb w1 (HPB.out.kept K_w1.out (by simp))
  go_wp2_with fail
  refine (fieldParams_nil _ fb fo _ _ _ (Kept.cell K_w1.out C0.out (by simp))).mono ?_
  rintro e w2 ⟨rfl, k⟩
  have k' := Kept.trans (K_w1.out) k
  have K_w2 := Lib.hid k'; clear k' k hm
  have hm := meth_Fodder pb w2.drew (HPB.out.kept K_w2.out.drew (by simp))
  go_wp2_with fail
  go_still_tail 9, (by kernel_rfl)
  go_wp2_with fail
  refine (passFodder _ base _ pb fb (fo + 4) (HPB.out.kept K_w2.out.drew (by simp)) _ v4 l4 (H4.out.kept K_w2.out.drew (by simp)) (K_w2.out.drew.cell C4.out (by simp))).mono ?_
  rintro e w3 ⟨rfl, k⟩
  have k' := Kept.trans (K_w2.out.drew) k
  have K_w3 := Lib.hid k'; clear k' k hm
  have hm := meth_Visit pb w3.drew (HPB.out.kept K_w3.out.drew (by simp))
  go_wp2_with fail
  go_still_tail 9, (by kernel_rfl)
  go_wp2_with fail
  refine (visit_LiteralNull _ base _ pb fb (fo + 7) xb (HPB.out.kept K_w3.out.drew (by simp)) _ (.slice none 0 0) [] (fod_nil _ _) (K_w3.out.drew.cell C7.out (by simp)) (NX.out.kept K_w3.out.drew (by simp)).1 (NX.out.kept K_w3.out.drew (by simp)).2).mono ?_
  rintro e w4 ⟨rfl, k⟩
  have k' := Kept.trans (K_w3.out.drew) k
  have K_w4 := Lib.hid k'; clear k' k hm
  have hm := meth_Fodder pb w4.drew (HPB.out.kept K_w4.out.drew (by simp))
  go_wp2_with fail
  go_still_tail 9, (by kernel_rfl)
  go_wp2_with fail
  refine (passFodder _ base _ pb fb (fo + 5) (HPB.out.kept K_w4.out.drew (by simp)) _ (.slice none 0 0) [] (fod_nil _ _) (K_w4.out.drew.cell C5.out (by simp))).mono ?_
  rintro e w5 ⟨rfl, k⟩
  have k' := Kept.trans (K_w4.out.drew) k
  have K_w5 := Lib.hid k'; clear k' k hm
  go_wp2_with fail
  go_end0
  exact ⟨rfl, K_w5.out⟩

set_option maxRecDepth 100000 in
set_option maxHeartbeats 8000000 in
theorem baseField_str (w : World) (base : Nat) (r : Value) (pb fb fo xb y : Nat) (hpb : IsPass w pb) (ctx : Value) (v3 v4 : Value) (l3 l4 : List FE) (h : OFl w fb fo xb 3 (litS y) (.slice none 0 0) v4) (h3 : Fod w base v3 l3) (h4 : Fod w base v4 l4) (cy : w.cell? ⟨y, 3, none⟩ = some v3) (fy : w.frozen? ⟨y, 3, none⟩ = false) :
    Calls Tryz.prog 98 #[r, .iface 88 (.pointer (some ⟨pb, 0, none⟩)), .pointer (some ⟨fb, fo, none⟩), ctx] w fun e w' => e = .returned (.tuple #[]) ∧ Kept [] w w' := by
  have HPB := Lib.hid hpb; clear hpb
  have c15 := h.c15
  have C0 := Lib.hid h.c0
  have C3 := Lib.hid h.c3
  have C4 := Lib.hid h.c4
  have C5 := Lib.hid h.c5
  have C6 := Lib.hid h.c6
  have C7 := Lib.hid h.c7
  have NX := Lib.hid h.nx
  have H3 := Lib.hid h3; clear h3
  have H4 := Lib.hid h4; clear h4
  clear h
  have hn1 := nilA_Fodder pb
  have hn2 := nilA_Visit pb
  have CY := Lib.hid cy; clear cy C3
  go_enter Tryz.func98, Tryz.ntmps98
  have hm := meth_Visit pb w.drew (HPB.out.kept (Kept.refl [] w).drew (by simp))
  go_wp2_with fail
  go_still_tail 9, (by kernel_rfl)
  go_wp2_with fail
  refine (visit_LiteralString _ base _ pb fb (fo + 6) y (HPB.out.kept (Kept.refl [] w).drew (by simp)) _ v3 l3 (H3.out.kept (Kept.refl [] w).drew (by simp)) ((Kept.refl [] w).drew.cell C6.out (by simp)) ((Kept.refl [] w).drew.cell CY.out (by simp)) (((Kept.refl [] w).drew.frozen (World.block_lt_of_cell? w _ CY.out) (by simp)).trans fy)).mono ?_
  rintro e w1 ⟨rfl, k⟩
  have k' := Kept.trans ((Kept.refl [] w).drew) k
  have K_w1 := Lib.hid k'; clear k' k hm
  have hm := meth_FieldParams pb w1 (HPB.out.kept K_w1.out (by simp))
  go_wp2_with fail
  refine (fieldParams_nil _ fb fo _ _ _ (Kept.cell K_w1.out C0.out (by simp))).mono ?_
  rintro e w2 ⟨rfl, k⟩
  have k' := Kept.trans (K_w1.out) k
  have K_w2 := Lib.hid k'; clear k' k hm
  have hm := meth_Fodder pb w2.drew (HPB.out.kept K_w2.out.drew (by simp))
  go_wp2_with fail
  go_still_tail 9, (by kernel_rfl)
  go_wp2_with fail
  refine (passFodder _ base _ pb fb (fo + 4) (HPB.out.kept K_w2.out.drew (by simp)) _ v4 l4 (H4.out.kept K_w2.out.drew (by simp)) (K_w2.out.drew.cell C4.out (by simp))).mono ?_
  rintro e w3 ⟨rfl, k⟩
  have k' := Kept.trans (K_w2.out.drew) k
  have K_w3 := Lib.hid k'; clear k' k hm
  have hm := meth_Visit pb w3.drew (HPB.out.kept K_w3.out.drew (by simp))
  go_wp2_with fail
  go_still_tail 9, (by kernel_rfl)
  go_wp2_with fail
  refine (visit_LiteralNull _ base _ pb fb (fo + 7) xb (HPB.out.kept K_w3.out.drew (by simp)) _ (.slice none 0 0) [] (fod_nil _ _) (K_w3.out.drew.cell C7.out (by simp)) (NX.out.kept K_w3.out.drew (by simp)).1 (NX.out.kept K_w3.out.drew (by simp)).2).mono ?_
  rintro e w4 ⟨rfl, k⟩
  have k' := Kept.trans (K_w3.out.drew) k
  have K_w4 := Lib.hid k'; clear k' k hm
  have hm := meth_Fodder pb w4.drew (HPB.out.kept K_w4.out.drew (by simp))
  go_wp2_with fail
  go_still_tail 9, (by kernel_rfl)
  go_wp2_with fail
  refine (passFodder _ base _ pb fb (fo + 5) (HPB.out.kept K_w4.out.drew (by simp)) _ (.slice none 0 0) [] (fod_nil _ _) (K_w4.out.drew.cell C5.out (by simp))).mono ?_
  rintro e w5 ⟨rfl, k⟩
  have k' := Kept.trans (K_w4.out.drew) k
  have K_w5 := Lib.hid k'; clear k' k hm
  go_wp2_with fail
  go_end0
  exact ⟨rfl, K_w5.out⟩
end Go.Proofs.YtgdipdbmllkckaaGreatFmt
