/- A store of a whole field into a block that others follow; the contract of n008_142's ZZnewIDField. -/
import Derived.Test.YtgdipdbmllkckaaGreatFmtFy
import Derived.Deep.MidRow
import Derived.Laws.CopyRow
namespace Go.Proofs.YtgdipdbmllkckaaGreatFmt
open Go.ChangeShapes Go.WideShapes Go.ChangeAt Go.RowKit

theorem setRow_under (w : World) (o : Obj) (g : Nat) (c : Array Value) (h : g < w.heap.size) : (w.alloc o).setRow g c = (w.setRow g c).alloc o := by
  simp only [World.setRow, World.alloc]
  congr 1
  apply Array.ext_getElem?
  intro i
  rw [Array.getElem?_modify, Array.getElem?_push, Array.getElem?_push, Array.size_modify, Array.getElem?_modify]
  have hgn : ¬ g = w.heap.size := by omega
  by_cases hi : i = w.heap.size
  · subst hi
    simp [hgn]
  · simp [hi]
/-- A field of no value. -/
def fld0 : Array Value := #[.pointer none, .pointer none, .slice none 0 0, .slice none 0 0, .slice none 0 0, .slice none 0 0, .nilIface, .nilIface, .nilIface, .pointer none, .string ⟨#[]⟩, .int .i64 0, .int .i64 0, .int .i64 0, .int .i64 0, .int .i64 0, .int .i64 0, .bool false]
theorem fld_under (w : World) (x y : Obj) (vs : Array Value) (hl : vs.size = 18) (h1 : vs.all (·.oneCell') = true) :
    (storeVar 74 ⟨w.heap.size, 0, none⟩ (.agg vs)).run Tryz.prog (((w.alloc (.cells fld0 74)).alloc x).alloc y) = .ok () (((w.alloc (.cells vs 74)).alloc x).alloc y) := by
  have hg : (((w.alloc (.cells fld0 74)).alloc x).alloc y).heap[w.heap.size]? = some (.cells fld0 74 (0, 0)) := (((Kept.refl [] _).alloc _).alloc _).heap (heap_alloc_new w _) (by simp)
  rw [run_storeVar_row _ _ _ 74 fld0 vs hg (by rw [hl]; exact fld_size) (by rw [hl]; rfl) h1]
  rw [setRow_under _ _ _ _ (by simp; omega), setRow_under _ _ _ _ (by simp), World.setRow_alloc_new]
theorem wpList_fld_under {ops : Array Oper} {rest : List Oper} {op : Oper} {a : Act} {Q : Exit → Act → World → Prop} (w W : World) (x y : Obj) (hgd : op.guard = none) (X Y : Operand) (ho : op.op = .store 74 X Y) (hW : W = ((w.alloc (.cells fld0 74)).alloc x).alloc y)
    (vs : Array Value) (hx : a.eval X = .pointer (some ⟨w.heap.size, 0, none⟩)) (hy : a.eval Y = .agg vs) (hl : vs.size = 18) (h1 : vs.all (·.oneCell') = true)
    (h : wpList Tryz.prog ops Q rest (a.put op.dst undef) (((w.alloc (.cells vs 74)).alloc x).alloc y)) : wpList Tryz.prog ops Q (op :: rest) a W :=
  wpList_plain hgd fun _ hK => by
    subst hW
    unfold Oper.wp execOp
    simp only [ho, hx, hy, Instr.storeAt, Instr.sureAddr, Sem.run_bind, Sem.run_pure, Result.andThen_ok, fld_under w x y vs hl h1]
    exact hK _ _ h
theorem fld_one (f : FY) : (encF f).toArray.all (·.oneCell') = true := Array.all_eq_true_iff_forall_mem.2 (fun v hv => encF_one f v (by simpa using hv))
theorem wpList_build_to {ops : Array Oper} {rest : List Oper} {o : Oper} {a : Act} {w : World} {Q : Exit → Act → World → Prop} (hg : o.guard = none) (t : TypeId) (parts : Array (Nat × Operand)) (ho : o.op = .build t parts) (cells : Array Value)
    (hf : Tryz.prog.built t (parts.map fun (i, x) => (i, a.eval x)).toList = some cells)
    (h : wpList Tryz.prog ops Q rest (a.put o.dst (.agg cells)) w) : wpList Tryz.prog ops Q (o :: rest) a w :=
  wpList_build hg t parts ho (by rw [hf]; rfl) (by rw [hf]; exact h)
theorem built_str (oa : Option Addr) (on oc : Nat) (t : TypeId) (v : Value) (t2 : TypeId) (v2 : Value) :
    Tryz.prog.built 74 [(10, .int .i64 3), (11, .int .i64 1), (6, .iface t v), (4, .slice oa on oc), (7, .iface t2 v2)] =
      some #[.pointer none, .pointer none, .slice none 0 0, .slice none 0 0, .slice oa on oc, .slice none 0 0, .iface t v, .iface t2 v2, .nilIface, .pointer none, .string ⟨#[]⟩, .int .i64 0, .int .i64 0, .int .i64 0, .int .i64 0, .int .i64 3, .int .i64 1, .bool false] := by kernel_rfl
theorem built_id (p : Option Addr) (oa : Option Addr) (on oc : Nat) (ta : Option Addr) (tn tc : Nat) (t : TypeId) (v : Value) :
    Tryz.prog.built 74 [(10, .int .i64 1), (11, .int .i64 1), (1, .pointer p), (3, .slice oa on oc), (4, .slice ta tn tc), (7, .iface t v)] =
      some #[.pointer none, .pointer p, .slice none 0 0, .slice oa on oc, .slice ta tn tc, .slice none 0 0, .nilIface, .iface t v, .nilIface, .pointer none, .string ⟨#[]⟩, .int .i64 0, .int .i64 0, .int .i64 0, .int .i64 0, .int .i64 1, .int .i64 1, .bool false] := by kernel_rfl

set_option maxRecDepth 100000 in
set_option maxHeartbeats 1000000 in
theorem newIDField_any (w : World) (oa : Option Addr) (on oc : Nat) (ta : Option Addr) (tn tc : Nat) : Calls Tryz.prog 24 #[.slice oa on oc, .slice ta tn tc] w fun e w' =>
    ∃ d idp, (∀ y lop lot, e = .returned (.agg (encF ⟨false, y, d, idp, (oa, on, oc), lop, (ta, tn, tc), lot⟩).toArray)) ∧ NulT w' d ∧ w.heap.size ≤ d ∧ Kept [] w w' := by
  go_enter Tryz.func24, Tryz.ntmps24
  go_wp2_with (first | (refine wpList_build_to rfl 74 _ rfl #[.pointer none, .pointer (some ⟨w.heap.size + 1, 0, none⟩), .slice none 0 0, .slice oa on oc, .slice ta tn tc, .slice none 0 0, .nilIface, nulI (w.heap.size + 1 + 1), .nilIface, .pointer none, .string ⟨#[]⟩, .int .i64 0, .int .i64 0, .int .i64 0, .int .i64 0, .int .i64 1, .int .i64 1, .bool false] (by show Tryz.prog.built 74 [_, _, _, _, _, _] = _; exact built_id _ _ _ _ _ _ _ _ _) ?_) | (refine wpList_fld_under w _ _ _ rfl _ _ rfl rfl (encF ⟨false, 0, w.heap.size + 1 + 1, some ⟨w.heap.size + 1, 0, none⟩, (oa, on, oc), [], (ta, tn, tc), []⟩).toArray rfl rfl rfl (fld_one _) ?_))
  obtain ⟨W, hW⟩ : ∃ W, (((w.alloc (.cells (encF ⟨false, 0, w.heap.size + 1 + 1, some ⟨w.heap.size + 1, 0, none⟩, (oa, on, oc), [], (ta, tn, tc), []⟩).toArray 74)).alloc (.cells #[.string ⟨#[102]⟩] 48)).alloc (.cells #[.slice none 0 0, .pointer none, .slice none 0 0, .pointer none, .string ⟨#[]⟩, .int .i64 0, .int .i64 0, .int .i64 0, .int .i64 0] 106)) = W := ⟨_, rfl⟩
  have x0 : W.heap[w.heap.size]? = some (.cells (encF ⟨false, 0, w.heap.size + 1 + 1, some ⟨w.heap.size + 1, 0, none⟩, (oa, on, oc), [], (ta, tn, tc), []⟩).toArray 74 (0, 0)) := by
    rw [← hW]
    exact (((Kept.refl [] _).alloc _).alloc _).heap (heap_alloc_new w _) (by simp)
  have x2 : NulT W (w.heap.size + 1 + 1) := by rw [← hW]; exact heap_new3 _ _ _ _
  have kW : Kept [] w W := by rw [← hW]; exact (((Kept.refl _ _).alloc _).alloc _).alloc _
  have c0 : W.cell? ⟨w.heap.size, 0, none⟩ = some (.pointer none) := cell_of_block x0 0
  have c1 : W.cell? ⟨w.heap.size, 1, none⟩ = some (.pointer (some ⟨w.heap.size + 1, 0, none⟩)) := cell_of_block x0 1
  have c2 : W.cell? ⟨w.heap.size, 2, none⟩ = some (.slice none 0 0) := cell_of_block x0 2
  have c3 : W.cell? ⟨w.heap.size, 3, none⟩ = some (.slice oa on oc) := cell_of_block x0 3
  have c4 : W.cell? ⟨w.heap.size, 4, none⟩ = some (.slice ta tn tc) := cell_of_block x0 4
  have c5 : W.cell? ⟨w.heap.size, 5, none⟩ = some (.slice none 0 0) := cell_of_block x0 5
  have c6 : W.cell? ⟨w.heap.size, 6, none⟩ = some (.nilIface) := cell_of_block x0 6
  have c7 : W.cell? ⟨w.heap.size, 7, none⟩ = some (nulI (w.heap.size + 1 + 1)) := cell_of_block x0 7
  have c8 : W.cell? ⟨w.heap.size, 8, none⟩ = some (.nilIface) := cell_of_block x0 8
  have c9 : W.cell? ⟨w.heap.size, 9, none⟩ = some (.pointer none) := cell_of_block x0 9
  have c10 : W.cell? ⟨w.heap.size, 10, none⟩ = some (.string ⟨#[]⟩) := cell_of_block x0 10
  have c11 : W.cell? ⟨w.heap.size, 11, none⟩ = some (.int .i64 0) := cell_of_block x0 11
  have c12 : W.cell? ⟨w.heap.size, 12, none⟩ = some (.int .i64 0) := cell_of_block x0 12
  have c13 : W.cell? ⟨w.heap.size, 13, none⟩ = some (.int .i64 0) := cell_of_block x0 13
  have c14 : W.cell? ⟨w.heap.size, 14, none⟩ = some (.int .i64 0) := cell_of_block x0 14
  have c15 : W.cell? ⟨w.heap.size, 15, none⟩ = some (.int .i64 1) := cell_of_block x0 15
  have c16 : W.cell? ⟨w.heap.size, 16, none⟩ = some (.int .i64 1) := cell_of_block x0 16
  have c17 : W.cell? ⟨w.heap.size, 17, none⟩ = some (.bool false) := cell_of_block x0 17
  unfold nulI at *
  rw [hW]
  clear hW
  refine bodyPost_ret (v := .agg #[.pointer none, .pointer (some ⟨w.heap.size + 1, 0, none⟩), .slice none 0 0, .slice oa on oc, .slice ta tn tc, .slice none 0 0, .nilIface, nulI (w.heap.size + 1 + 1), .nilIface, .pointer none, .string ⟨#[]⟩, .int .i64 0, .int .i64 0, .int .i64 0, .int .i64 0, .int .i64 1, .int .i64 1, .bool false]) (by simp [results, Tryz.results24, go_sem, c0, c1, c2, c3, c4, c5, c6, c7, c8, c9, c10, c11, c12, c13, c14, c15, c16, c17]; rfl) rfl ?_
  exact ⟨_, _, fun _ _ _ => rfl, x2, by omega, kW⟩
end Go.Proofs.YtgdipdbmllkckaaGreatFmt
