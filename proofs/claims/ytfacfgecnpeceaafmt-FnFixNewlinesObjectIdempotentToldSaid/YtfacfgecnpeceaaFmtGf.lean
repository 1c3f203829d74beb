/- The contracts of objectFieldOpenFodder and of the pass's ObjectField at fields in a row: named by an identifier, a string, an expression; bodies are variables. -/
import Derived.Test.YtfacfgecnpeceaaFmtVisV
import Derived.Test.YtfacfgecnpeceaaFmtVisS
import Derived.Test.YtfacfgecnpeceaaFmtOpL
namespace Go.Proofs.YtfacfgecnpeceaaFmt
open Go.ChangeShapes Go.WideShapes Go.ChangeAt Go.RowKit

set_option maxRecDepth 100000 in
theorem meth_FieldParams (pb : Nat) (w : World) (h : IsPass w pb) : (method 377 77 (.pointer (some ⟨pb, 0, none⟩)) "FieldParams").run Tryf.prog w = .ok (64, .pointer (some ⟨pb, 0, none⟩)) w :=
  meth_base w pb h _ _ 376 (by kernel_rfl) base_field
set_option maxRecDepth 100000 in
theorem nilA_FieldParams (pb : Nat) (w : World) : (nilAhead 377 77 (.pointer (some ⟨pb, 0, none⟩)) "FieldParams").run Tryf.prog w = .ok (some false) w := by kernel_rfl

def litS (y : Nat) : Value := .iface 64 (.pointer (some ⟨y, 0, none⟩))
def varS (y : Nat) : Value := .iface 60 (.pointer (some ⟨y, 0, none⟩))
/-- A variable without a fodder. -/
def AtVar (w : World) (x : Nat) : Prop := w.cell? ⟨x, 1, none⟩ = some (.slice none 0 0) ∧ w.frozen? ⟨x, 1, none⟩ = false
theorem AtVar.kept {S : List Nat} {w w' : World} {x : Nat} (h : AtVar w x) (q : Kept S w w') (hx : x ∉ S) : AtVar w' x :=
  ⟨q.cell h.1 hx, (q.frozen (World.block_lt_of_cell? w _ h.1) hx).trans h.2⟩
theorem fod_none (w : World) (base : Nat) : Fod w base (.slice none 0 0) [] := ⟨rfl, Or.inl ⟨rfl, rfl⟩⟩
/-- At (fb, fo) lies an object field of that kind, without a method; its body is a variable at xb. -/
structure OFv (w : World) (fb fo xb : Nat) (kind : Int) (e1 v2 v3 : Value) : Prop where
  c0 : w.cell? ⟨fb, fo, none⟩ = some (.pointer none)
  c2 : w.cell? ⟨fb, fo + 2, none⟩ = some v2
  c3 : w.cell? ⟨fb, fo + 3, none⟩ = some v3
  c4 : w.cell? ⟨fb, fo + 4, none⟩ = some (.slice none 0 0)
  c5 : w.cell? ⟨fb, fo + 5, none⟩ = some (.slice none 0 0)
  c6 : w.cell? ⟨fb, fo + 6, none⟩ = some e1
  c7 : w.cell? ⟨fb, fo + 7, none⟩ = some (varS xb)
  c15 : w.cell? ⟨fb, fo + 15, none⟩ = some (.int .i64 kind)
  nx : AtVar w xb

set_option maxRecDepth 100000 in
theorem fieldParams_nil (w : World) (fb fo : Nat) (r p ctx : Value) (c0 : w.cell? ⟨fb, fo, none⟩ = some (.pointer none)) :
    Calls Tryf.prog 64 #[r, p, .pointer (some ⟨fb, fo, none⟩), ctx] w fun e w' => e = .returned (.tuple #[]) ∧ Kept [] w w' := by
  go_enter Tryf.func64, Tryf.ntmps64
  go_wp2_with fail
  go_end0
  exact ⟨rfl, Kept.refl _ _⟩

set_option maxRecDepth 100000 in
theorem openOf_own (w : World) (fb fo : Nat) (k : Int) (hk : k ≠ 3) (c15 : w.cell? ⟨fb, fo + 15, none⟩ = some (.int .i64 k)) :
    Calls Tryf.prog 22 #[.pointer (some ⟨fb, fo, none⟩)] w fun e w' => e = .returned (.pointer (some ⟨fb, fo + 3, none⟩)) ∧ w = w' := by
  have hk' : (k == 3) = false := by simpa using hk
  go_enter Tryf.func22, Tryf.ntmps22
  go_wp2_with fail
  go_ret
  exact ⟨rfl, rfl⟩
set_option maxRecDepth 100000 in
theorem openOf_str (w : World) (fb fo y : Nat) (c15 : w.cell? ⟨fb, fo + 15, none⟩ = some (.int .i64 3)) (c6 : w.cell? ⟨fb, fo + 6, none⟩ = some (litS y)) :
    Calls Tryf.prog 22 #[.pointer (some ⟨fb, fo, none⟩)] w fun e w' => e = .returned (.pointer (some ⟨y, 3, none⟩)) ∧ w = w' := by
  unfold litS at c6
  go_enter Tryf.func22, Tryf.ntmps22
  go_wp2_with fail
  refine (openF_LiteralString _ y).mono ?_
  rintro e w' ⟨rfl, rfl⟩
  go_wp2_with fail
  go_ret
  exact ⟨rfl, rfl⟩

set_option maxRecDepth 100000 in
set_option maxHeartbeats 8000000 in
theorem baseField_id (w : World) (base : Nat) (r : Value) (pb fb fo xb : Nat) (hpb : IsPass w pb) (ctx : Value) (v2 v3 : Value) (l2 l3 : List FE) (h : OFv w fb fo xb 1 .nilIface v2 v3) (h2 : Fod w base v2 l2) (h3 : Fod w base v3 l3) :
    Calls Tryf.prog 80 #[r, .iface 77 (.pointer (some ⟨pb, 0, none⟩)), .pointer (some ⟨fb, fo, none⟩), ctx] w fun e w' => e = .returned (.tuple #[]) ∧ Kept [] w w' := by
  have HPB := Lib.hid hpb; clear hpb
  have c15 := h.c15
  have C0 := Lib.hid h.c0
  have C2 := Lib.hid h.c2
  have C3 := Lib.hid h.c3
  have C4 := Lib.hid h.c4
  have C5 := Lib.hid h.c5
  have C6 := Lib.hid h.c6
  have C7 := Lib.hid h.c7
  have NX := Lib.hid h.nx
  have H2 := Lib.hid h2; clear h2
  have H3 := Lib.hid h3; clear h3
  clear h
  have hn1 := nilA_Fodder pb
  have hn2 := nilA_Visit pb
  go_enter Tryf.func80, Tryf.ntmps80
  have hm := meth_Fodder pb w.drew (HPB.out.kept (Kept.refl [] w).drew (by simp))
  go_wp2_with fail
  go_still_tail 9, (by kernel_rfl)
  go_wp2_with fail
  refine (passFodder _ base _ pb fb (fo + 3) (HPB.out.kept (Kept.refl [] w).drew (by simp)) _ v3 l3 (H3.out.kept (Kept.refl [] w).drew (by simp)) ((Kept.refl [] w).drew.cell C3.out (by simp))).mono ?_
  rintro e w1 ⟨rfl, k⟩
  have k' := Kept.trans ((Kept.refl [] w).drew) k
  have K_w1 := Lib.hid k'; clear k' k hm
  have hm := meth_FieldParams pb w1 (HPB.out.kept K_w1.out (by simp))
  go_wp2_with fail
  refine (fieldParams_nil _ fb fo _ _ _ (Kept.cell K_w1.out C0.out (by simp))).mono ?_
  rintro e w2 ⟨rfl, k⟩
  have k' := Kept.trans K_w1.out k
  have K_w2 := Lib.hid k'; clear k' k hm
  have hm := meth_Fodder pb w2.drew (HPB.out.kept K_w2.out.drew (by simp))
  go_wp2_with fail
  go_still_tail 9, (by kernel_rfl)
  go_wp2_with fail
  refine (passFodder _ base _ pb fb (fo + 4) (HPB.out.kept K_w2.out.drew (by simp)) _ (.slice none 0 0) [] (fod_none _ _) (K_w2.out.drew.cell C4.out (by simp))).mono ?_
  rintro e w3 ⟨rfl, k⟩
  have k' := Kept.trans (K_w2.out.drew) k
  have K_w3 := Lib.hid k'; clear k' k hm
  have hm := meth_Visit pb w3.drew (HPB.out.kept K_w3.out.drew (by simp))
  go_wp2_with fail
  go_still_tail 9, (by kernel_rfl)
  go_wp2_with fail
  refine (visit_Var _ base _ pb fb (fo + 7) xb (HPB.out.kept K_w3.out.drew (by simp)) _ (.slice none 0 0) [] (fod_none _ _) (K_w3.out.drew.cell C7.out (by simp)) (NX.out.kept K_w3.out.drew (by simp)).1 (NX.out.kept K_w3.out.drew (by simp)).2).mono ?_
  rintro e w4 ⟨rfl, k⟩
  have k' := Kept.trans (K_w3.out.drew) k
  have K_w4 := Lib.hid k'; clear k' k hm
  have hm := meth_Fodder pb w4.drew (HPB.out.kept K_w4.out.drew (by simp))
  go_wp2_with fail
  go_still_tail 9, (by kernel_rfl)
  go_wp2_with fail
  refine (passFodder _ base _ pb fb (fo + 5) (HPB.out.kept K_w4.out.drew (by simp)) _ (.slice none 0 0) [] (fod_none _ _) (K_w4.out.drew.cell C5.out (by simp))).mono ?_
  rintro e w5 ⟨rfl, k⟩
  have k' := Kept.trans (K_w4.out.drew) k
  have K_w5 := Lib.hid k'; clear k' k hm
  go_wp2_with fail
  go_end0
  exact ⟨rfl, K_w5.out⟩

set_option maxRecDepth 100000 in
set_option maxHeartbeats 8000000 in
theorem baseField_str (w : World) (base : Nat) (r : Value) (pb fb fo xb y : Nat) (hpb : IsPass w pb) (ctx : Value) (v2 v3 : Value) (l2 l3 : List FE) (h : OFv w fb fo xb 3 (litS y) v2 v3) (h2 : Fod w base v2 l2) (h3 : Fod w base v3 l3) (vy : Value) (ly : List FE) (cy : w.cell? ⟨y, 3, none⟩ = some vy) (fy : w.frozen? ⟨y, 3, none⟩ = false) (hy : Fod w base vy ly) :
    Calls Tryf.prog 80 #[r, .iface 77 (.pointer (some ⟨pb, 0, none⟩)), .pointer (some ⟨fb, fo, none⟩), ctx] w fun e w' => e = .returned (.tuple #[]) ∧ Kept [] w w' := by
  have HPB := Lib.hid hpb; clear hpb
  have c15 := h.c15
  have C0 := Lib.hid h.c0
  have C2 := Lib.hid h.c2
  have C3 := Lib.hid h.c3
  have C4 := Lib.hid h.c4
  have C5 := Lib.hid h.c5
  have C6 := Lib.hid h.c6
  have C7 := Lib.hid h.c7
  have NX := Lib.hid h.nx
  have H2 := Lib.hid h2; clear h2
  have H3 := Lib.hid h3; clear h3
  clear h
  have CY := Lib.hid cy; have FYY := Lib.hid fy; have HY := Lib.hid hy; clear cy fy hy
  have hn1 := nilA_Fodder pb
  have hn2 := nilA_Visit pb
  go_enter Tryf.func80, Tryf.ntmps80
  have hm := meth_Visit pb w.drew (HPB.out.kept (Kept.refl [] w).drew (by simp))
  go_wp2_with fail
  go_still_tail 9, (by kernel_rfl)
  go_wp2_with fail
  refine (visit_LiteralString _ base _ pb fb (fo + 6) y (HPB.out.kept (Kept.refl [] w).drew (by simp)) _ vy ly (HY.out.kept (Kept.refl [] w).drew (by simp)) ((Kept.refl [] w).drew.cell C6.out (by simp)) ((Kept.refl [] w).drew.cell CY.out (by simp)) (((Kept.refl [] w).drew.frozen (World.block_lt_of_cell? w _ CY.out) (by simp)).trans FYY.out)).mono ?_
  rintro e w1 ⟨rfl, k⟩
  have k' := Kept.trans ((Kept.refl [] w).drew) k
  have K_w1 := Lib.hid k'; clear k' k hm
  have hm := meth_FieldParams pb w1 (HPB.out.kept K_w1.out (by simp))
  go_wp2_with fail
  refine (fieldParams_nil _ fb fo _ _ _ (Kept.cell K_w1.out C0.out (by simp))).mono ?_
  rintro e w2 ⟨rfl, k⟩
  have k' := Kept.trans K_w1.out k
  have K_w2 := Lib.hid k'; clear k' k hm
  have hm := meth_Fodder pb w2.drew (HPB.out.kept K_w2.out.drew (by simp))
  go_wp2_with fail
  go_still_tail 9, (by kernel_rfl)
  go_wp2_with fail
  refine (passFodder _ base _ pb fb (fo + 4) (HPB.out.kept K_w2.out.drew (by simp)) _ (.slice none 0 0) [] (fod_none _ _) (K_w2.out.drew.cell C4.out (by simp))).mono ?_
  rintro e w3 ⟨rfl, k⟩
  have k' := Kept.trans (K_w2.out.drew) k
  have K_w3 := Lib.hid k'; clear k' k hm
  have hm := meth_Visit pb w3.drew (HPB.out.kept K_w3.out.drew (by simp))
  go_wp2_with fail
  go_still_tail 9, (by kernel_rfl)
  go_wp2_with fail
  refine (visit_Var _ base _ pb fb (fo + 7) xb (HPB.out.kept K_w3.out.drew (by simp)) _ (.slice none 0 0) [] (fod_none _ _) (K_w3.out.drew.cell C7.out (by simp)) (NX.out.kept K_w3.out.drew (by simp)).1 (NX.out.kept K_w3.out.drew (by simp)).2).mono ?_
  rintro e w4 ⟨rfl, k⟩
  have k' := Kept.trans (K_w3.out.drew) k
  have K_w4 := Lib.hid k'; clear k' k hm
  have hm := meth_Fodder pb w4.drew (HPB.out.kept K_w4.out.drew (by simp))
  go_wp2_with fail
  go_still_tail 9, (by kernel_rfl)
  go_wp2_with fail
  refine (passFodder _ base _ pb fb (fo + 5) (HPB.out.kept K_w4.out.drew (by simp)) _ (.slice none 0 0) [] (fod_none _ _) (K_w4.out.drew.cell C5.out (by simp))).mono ?_
  rintro e w5 ⟨rfl, k⟩
  have k' := Kept.trans (K_w4.out.drew) k
  have K_w5 := Lib.hid k'; clear k' k hm
  go_wp2_with fail
  go_end0
  exact ⟨rfl, K_w5.out⟩

set_option maxRecDepth 100000 in
set_option maxHeartbeats 8000000 in
theorem baseField_expr (w : World) (base : Nat) (r : Value) (pb fb fo xb y : Nat) (hpb : IsPass w pb) (ctx : Value) (v2 v3 : Value) (l2 l3 : List FE) (h : OFv w fb fo xb 2 (varS y) v2 v3) (h2 : Fod w base v2 l2) (h3 : Fod w base v3 l3) (ny : AtVar w y) :
    Calls Tryf.prog 80 #[r, .iface 77 (.pointer (some ⟨pb, 0, none⟩)), .pointer (some ⟨fb, fo, none⟩), ctx] w fun e w' => e = .returned (.tuple #[]) ∧ Kept [] w w' := by
  have HPB := Lib.hid hpb; clear hpb
  have c15 := h.c15
  have C0 := Lib.hid h.c0
  have C2 := Lib.hid h.c2
  have C3 := Lib.hid h.c3
  have C4 := Lib.hid h.c4
  have C5 := Lib.hid h.c5
  have C6 := Lib.hid h.c6
  have C7 := Lib.hid h.c7
  have NX := Lib.hid h.nx
  have H2 := Lib.hid h2; clear h2
  have H3 := Lib.hid h3; clear h3
  clear h
  have NY := Lib.hid ny; clear ny
  have hn1 := nilA_Fodder pb
  have hn2 := nilA_Visit pb
  go_enter Tryf.func80, Tryf.ntmps80
  have hm := meth_Fodder pb w.drew (HPB.out.kept (Kept.refl [] w).drew (by simp))
  go_wp2_with fail
  go_still_tail 9, (by kernel_rfl)
  go_wp2_with fail
  refine (passFodder _ base _ pb fb (fo + 3) (HPB.out.kept (Kept.refl [] w).drew (by simp)) _ v3 l3 (H3.out.kept (Kept.refl [] w).drew (by simp)) ((Kept.refl [] w).drew.cell C3.out (by simp))).mono ?_
  rintro e w1 ⟨rfl, k⟩
  have k' := Kept.trans ((Kept.refl [] w).drew) k
  have K_w1 := Lib.hid k'; clear k' k hm
  have hm := meth_Visit pb w1.drew (HPB.out.kept K_w1.out.drew (by simp))
  go_wp2_with fail
  go_still_tail 9, (by kernel_rfl)
  go_wp2_with fail
  refine (visit_Var _ base _ pb fb (fo + 6) y (HPB.out.kept K_w1.out.drew (by simp)) _ (.slice none 0 0) [] (fod_none _ _) (K_w1.out.drew.cell C6.out (by simp)) (NY.out.kept K_w1.out.drew (by simp)).1 (NY.out.kept K_w1.out.drew (by simp)).2).mono ?_
  rintro e w2 ⟨rfl, k⟩
  have k' := Kept.trans (K_w1.out.drew) k
  have K_w2 := Lib.hid k'; clear k' k hm
  have hm := meth_Fodder pb w2.drew (HPB.out.kept K_w2.out.drew (by simp))
  go_wp2_with fail
  go_still_tail 9, (by kernel_rfl)
  go_wp2_with fail
  refine (passFodder _ base _ pb fb (fo + 2) (HPB.out.kept K_w2.out.drew (by simp)) _ v2 l2 (H2.out.kept K_w2.out.drew (by simp)) (K_w2.out.drew.cell C2.out (by simp))).mono ?_
  rintro e w3 ⟨rfl, k⟩
  have k' := Kept.trans (K_w2.out.drew) k
  have K_w3 := Lib.hid k'; clear k' k hm
  have hm := meth_FieldParams pb w3 (HPB.out.kept K_w3.out (by simp))
  go_wp2_with fail
  refine (fieldParams_nil _ fb fo _ _ _ (Kept.cell K_w3.out C0.out (by simp))).mono ?_
  rintro e w4 ⟨rfl, k⟩
  have k' := Kept.trans K_w3.out k
  have K_w4 := Lib.hid k'; clear k' k hm
  have hm := meth_Fodder pb w4.drew (HPB.out.kept K_w4.out.drew (by simp))
  go_wp2_with fail
  go_still_tail 9, (by kernel_rfl)
  go_wp2_with fail
  refine (passFodder _ base _ pb fb (fo + 4) (HPB.out.kept K_w4.out.drew (by simp)) _ (.slice none 0 0) [] (fod_none _ _) (K_w4.out.drew.cell C4.out (by simp))).mono ?_
  rintro e w5 ⟨rfl, k⟩
  have k' := Kept.trans (K_w4.out.drew) k
  have K_w5 := Lib.hid k'; clear k' k hm
  have hm := meth_Visit pb w5.drew (HPB.out.kept K_w5.out.drew (by simp))
  go_wp2_with fail
  go_still_tail 9, (by kernel_rfl)
  go_wp2_with fail
  refine (visit_Var _ base _ pb fb (fo + 7) xb (HPB.out.kept K_w5.out.drew (by simp)) _ (.slice none 0 0) [] (fod_none _ _) (K_w5.out.drew.cell C7.out (by simp)) (NX.out.kept K_w5.out.drew (by simp)).1 (NX.out.kept K_w5.out.drew (by simp)).2).mono ?_
  rintro e w6 ⟨rfl, k⟩
  have k' := Kept.trans (K_w5.out.drew) k
  have K_w6 := Lib.hid k'; clear k' k hm
  have hm := meth_Fodder pb w6.drew (HPB.out.kept K_w6.out.drew (by simp))
  go_wp2_with fail
  go_still_tail 9, (by kernel_rfl)
  go_wp2_with fail
  refine (passFodder _ base _ pb fb (fo + 5) (HPB.out.kept K_w6.out.drew (by simp)) _ (.slice none 0 0) [] (fod_none _ _) (K_w6.out.drew.cell C5.out (by simp))).mono ?_
  rintro e w7 ⟨rfl, k⟩
  have k' := Kept.trans (K_w6.out.drew) k
  have K_w7 := Lib.hid k'; clear k' k hm
  go_wp2_with fail
  go_end0
  exact ⟨rfl, K_w7.out⟩
end Go.Proofs.YtfacfgecnpeceaaFmt
