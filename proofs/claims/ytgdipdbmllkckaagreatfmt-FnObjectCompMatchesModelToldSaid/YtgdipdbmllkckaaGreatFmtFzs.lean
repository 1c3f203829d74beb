/- The contract of n008_142's ZZnewStrField. -/
import Derived.Test.YtgdipdbmllkckaaGreatFmtFz
namespace Go.Proofs.YtgdipdbmllkckaaGreatFmt
open Go.ChangeShapes Go.WideShapes Go.ChangeAt Go.RowKit

set_option maxRecDepth 100000 in
set_option maxHeartbeats 1000000 in
theorem newStrField_any (w : World) (oa : Option Addr) (on oc : Nat) (ta : Option Addr) (tn tc : Nat) : Calls Tryz.prog 22 #[.slice oa on oc, .slice ta tn tc] w fun e w' =>
    ∃ y d, (∀ lop lot, e = .returned (.tuple #[.agg (encF ⟨true, y, d, none, (oa, on, oc), lop, (ta, tn, tc), lot⟩).toArray, .pointer (some ⟨y, 0, none⟩)])) ∧ NulT w' d ∧ w.heap.size ≤ d ∧ LitT w' y (.slice oa on oc) ∧ w.heap.size ≤ y ∧ Kept [] w w' := by
  go_enter Tryz.func22, Tryz.ntmps22
  go_wp2_with (first | (refine wpList_build_to rfl 74 _ rfl #[.pointer none, .pointer none, .slice none 0 0, .slice none 0 0, .slice ta tn tc, .slice none 0 0, litS (w.heap.size + 1), nulI (w.heap.size + 1 + 1), .nilIface, .pointer none, .string ⟨#[]⟩, .int .i64 0, .int .i64 0, .int .i64 0, .int .i64 0, .int .i64 3, .int .i64 1, .bool false] (by show Tryz.prog.built 74 [_, _, _, _, _] = _; exact built_str _ _ _ _ _ _ _) ?_) | (refine wpList_fld_under w _ _ _ rfl _ _ rfl rfl (encF ⟨true, w.heap.size + 1, w.heap.size + 1 + 1, none, (oa, on, oc), [], (ta, tn, tc), []⟩).toArray rfl rfl rfl (fld_one _) ?_))
  obtain ⟨W, hW⟩ : ∃ W, (((w.alloc (.cells (encF ⟨true, w.heap.size + 1, w.heap.size + 1 + 1, none, (oa, on, oc), [], (ta, tn, tc), []⟩).toArray 74)).alloc (.cells #[.string ⟨#[102]⟩, .string ⟨#[]⟩, .string ⟨#[]⟩, .slice oa on oc, .pointer none, .slice none 0 0, .pointer none, .string ⟨#[]⟩, .int .i64 0, .int .i64 0, .int .i64 0, .int .i64 0, .int .i64 1] 101)).alloc (.cells #[.slice none 0 0, .pointer none, .slice none 0 0, .pointer none, .string ⟨#[]⟩, .int .i64 0, .int .i64 0, .int .i64 0, .int .i64 0] 106)) = W := ⟨_, rfl⟩
  have x0 : W.heap[w.heap.size]? = some (.cells (encF ⟨true, w.heap.size + 1, w.heap.size + 1 + 1, none, (oa, on, oc), [], (ta, tn, tc), []⟩).toArray 74 (0, 0)) := by
    rw [← hW]
    exact (((Kept.refl [] _).alloc _).alloc _).heap (heap_alloc_new w _) (by simp)
  have x1 : W.heap[w.heap.size + 1]? = some (.cells #[.string ⟨#[102]⟩, .string ⟨#[]⟩, .string ⟨#[]⟩, .slice oa on oc, .pointer none, .slice none 0 0, .pointer none, .string ⟨#[]⟩, .int .i64 0, .int .i64 0, .int .i64 0, .int .i64 0, .int .i64 1] 101 (0, 0)) := by rw [← hW]; exact heap_mid3 _ _ _ _
  have x2 : NulT W (w.heap.size + 1 + 1) := by rw [← hW]; exact heap_new3 _ _ _ _
  have kW : Kept [] w W := by rw [← hW]; exact (((Kept.refl _ _).alloc _).alloc _).alloc _
  have c0 : W.cell? ⟨w.heap.size, 0, none⟩ = some (.pointer none) := cell_of_block x0 0
  have c1 : W.cell? ⟨w.heap.size, 1, none⟩ = some (.pointer none) := cell_of_block x0 1
  have c2 : W.cell? ⟨w.heap.size, 2, none⟩ = some (.slice none 0 0) := cell_of_block x0 2
  have c3 : W.cell? ⟨w.heap.size, 3, none⟩ = some (.slice none 0 0) := cell_of_block x0 3
  have c4 : W.cell? ⟨w.heap.size, 4, none⟩ = some (.slice ta tn tc) := cell_of_block x0 4
  have c5 : W.cell? ⟨w.heap.size, 5, none⟩ = some (.slice none 0 0) := cell_of_block x0 5
  have c6 : W.cell? ⟨w.heap.size, 6, none⟩ = some (litS (w.heap.size + 1)) := cell_of_block x0 6
  have c7 : W.cell? ⟨w.heap.size, 7, none⟩ = some (nulI (w.heap.size + 1 + 1)) := cell_of_block x0 7
  have c8 : W.cell? ⟨w.heap.size, 8, none⟩ = some (.nilIface) := cell_of_block x0 8
  have c9 : W.cell? ⟨w.heap.size, 9, none⟩ = some (.pointer none) := cell_of_block x0 9
  have c10 : W.cell? ⟨w.heap.size, 10, none⟩ = some (.string ⟨#[]⟩) := cell_of_block x0 10
  have c11 : W.cell? ⟨w.heap.size, 11, none⟩ = some (.int .i64 0) := cell_of_block x0 11
  have c12 : W.cell? ⟨w.heap.size, 12, none⟩ = some (.int .i64 0) := cell_of_block x0 12
  have c13 : W.cell? ⟨w.heap.size, 13, none⟩ = some (.int .i64 0) := cell_of_block x0 13
  have c14 : W.cell? ⟨w.heap.size, 14, none⟩ = some (.int .i64 0) := cell_of_block x0 14
  have c15 : W.cell? ⟨w.heap.size, 15, none⟩ = some (.int .i64 3) := cell_of_block x0 15
  have c16 : W.cell? ⟨w.heap.size, 16, none⟩ = some (.int .i64 1) := cell_of_block x0 16
  have c17 : W.cell? ⟨w.heap.size, 17, none⟩ = some (.bool false) := cell_of_block x0 17
  unfold nulI litS at *
  rw [hW]
  clear hW
  refine bodyPost_ret (v := .tuple #[.agg #[.pointer none, .pointer none, .slice none 0 0, .slice none 0 0, .slice ta tn tc, .slice none 0 0, litS (w.heap.size + 1), nulI (w.heap.size + 1 + 1), .nilIface, .pointer none, .string ⟨#[]⟩, .int .i64 0, .int .i64 0, .int .i64 0, .int .i64 0, .int .i64 3, .int .i64 1, .bool false], .pointer (some ⟨w.heap.size + 1, 0, none⟩)]) (by simp [results, Tryz.results22, go_sem, c0, c1, c2, c3, c4, c5, c6, c7, c8, c9, c10, c11, c12, c13, c14, c15, c16, c17]; exact ⟨rfl, rfl⟩) rfl ?_
  exact ⟨_, _, fun _ _ => rfl, x2, by omega, ⟨_, _, _, _, x1⟩, by omega, kW⟩
end Go.Proofs.YtgdipdbmllkckaaGreatFmt
