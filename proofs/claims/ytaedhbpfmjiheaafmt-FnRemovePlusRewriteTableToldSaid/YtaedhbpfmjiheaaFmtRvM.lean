/- The contracts of n008_22's zzLeft; composite values of nodes, by one law each. -/
import Derived.Test.YtaedhbpfmjiheaaFmtRvK
import Derived.Test.YtaedhbpfmjiheaaFmtZt
import Derived.Laws.Tables
namespace Go.Proofs.YtaedhbpfmjiheaaFmt
open Go.ChangeShapes Go.WideShapes Go.ChangeAt Go.RowKit

theorem wpList_build_to {ops : Array Oper} {rest : List Oper} {o : Oper} {a : Act} {w : World} {Q : Exit → Act → World → Prop} (hg : o.guard = none) (t : TypeId) (parts : Array (Nat × Operand)) (ho : o.op = .build t parts) (cells : Array Value)
    (hf : Tryf.prog.built t (parts.map fun (i, x) => (i, a.eval x)).toList = some cells)
    (h : wpList Tryf.prog ops Q rest (a.put o.dst (.agg cells)) w) : wpList Tryf.prog ops Q (o :: rest) a w :=
  wpList_build hg t parts ho (by rw [hf]; rfl) (by rw [hf]; exact h)
/-- A node's base with this fodder. -/
def nbA (s : Value) : Array Value := #[s, .pointer none, .slice none 0 0, .pointer none, .string ⟨#[]⟩, .int .i64 0, .int .i64 0, .int .i64 0, .int .i64 0]
theorem built_nb (a : Option Addr) (n c : Nat) : Tryf.prog.built 41 [(0, .slice a n c)] = some (nbA (.slice a n c)) := by kernel_rfl
theorem built_obj (a : Option Addr) (n c : Nat) : Tryf.prog.built 45 [(2, .agg (nbA (.slice a n c)))] = some #[.slice none 0 0, .slice none 0 0, .slice a n c, .pointer none, .slice none 0 0, .pointer none, .string ⟨#[]⟩, .int .i64 0, .int .i64 0, .int .i64 0, .int .i64 0, .bool false] := by kernel_rfl
theorem built_null (a : Option Addr) (n c : Nat) : Tryf.prog.built 47 [(0, .agg (nbA (.slice a n c)))] = some (nbA (.slice a n c)) := by kernel_rfl
theorem built_var (a : Option Addr) (n c : Nat) (s : ByteArray) : Tryf.prog.built 50 [(1, .agg (nbA (.slice a n c))), (0, .string s)] = some #[.string s, .slice a n c, .pointer none, .slice none 0 0, .pointer none, .string ⟨#[]⟩, .int .i64 0, .int .i64 0, .int .i64 0, .int .i64 0] := by kernel_rfl
theorem built_bin (a : Option Addr) (n c : Nat) (T : TypeId) (x : Value) (a2 : Option Addr) (n2 c2 : Nat) (op : Int) (T2 : TypeId) (x2 : Value) : Tryf.prog.built 54 [(3, .agg (nbA (.slice a n c))), (1, .iface T x), (2, .slice a2 n2 c2), (4, .int .i64 op), (0, .iface T2 x2)] =
    some #[.iface T2 x2, .iface T x, .slice a2 n2 c2, .slice a n c, .pointer none, .slice none 0 0, .pointer none, .string ⟨#[]⟩, .int .i64 0, .int .i64 0, .int .i64 0, .int .i64 0, .int .i64 op] := by kernel_rfl

set_option maxRecDepth 100000 in
theorem zzLeft_0 (w : World) : Calls Tryf.prog 4 #[.int .i64 0] w fun e w' => ∃ x, e = .returned (.iface 30 (.pointer (some ⟨x, 0, none⟩))) ∧ LK w' w'.heap.size 30 x ∧ Kept [] w w' := by
  go_enter Tryf.func4, Tryf.ntmps4
  go_wp2_with fail
  go_ret
  exact ⟨_, rfl, ⟨by simp, Or.inl ⟨rfl, cell_of_block (heap_alloc_new w _) 1, frozen_of_block (heap_alloc_new w _) 1⟩⟩, (Kept.refl _ _).alloc _⟩
set_option maxRecDepth 100000 in
theorem zzLeft_2 (w : World) : Calls Tryf.prog 4 #[.int .i64 2] w fun e w' => ∃ x, e = .returned (.iface 78 (.pointer (some ⟨x, 0, none⟩))) ∧ LK w' w'.heap.size 78 x ∧ Kept [] w w' := by
  go_enter Tryf.func4, Tryf.ntmps4
  go_wp2_with fail
  go_ret
  exact ⟨_, rfl, ⟨by simp, Or.inr (Or.inl ⟨rfl, cell_of_block (heap_alloc_new w _) 0, frozen_of_block (heap_alloc_new w _) 0⟩)⟩, (Kept.refl _ _).alloc _⟩
set_option maxRecDepth 100000 in
theorem zzLeft_1 (w : World) : Calls Tryf.prog 4 #[.int .i64 1] w fun e w' => ∃ x, e = .returned (.iface 74 (.pointer (some ⟨x, 0, none⟩))) ∧ LK w' w'.heap.size 74 x ∧ Kept [] w w' := by
  go_enter Tryf.func4, Tryf.ntmps4
  go_wp2_with fail
  go_ret
  refine ⟨_, rfl, ?_, (((Kept.refl _ _).alloc _).alloc _).alloc _⟩
  have key : ∀ (u x y : Obj), (((w.alloc u).alloc x).alloc y).heap[w.heap.size + 1 + 1]? = some y ∧ (((w.alloc u).alloc x).alloc y).heap[w.heap.size + 1]? = some x := fun u x y => by
    have e1 := heap_alloc_new ((w.alloc u).alloc x) y
    have e2 := ((Kept.refl [] _).alloc y).heap (heap_alloc_new (w.alloc u) x) (by simp)
    simp only [World.size_alloc] at e1 e2
    exact ⟨e1, e2⟩
  refine ⟨by simp, Or.inr (Or.inr ⟨rfl, ⟨cell_of_block (key _ _ _).1 5, frozen_of_block (key _ _ _).1 5⟩, cell_of_block (key _ _ _).1 3, ⟨_, cell_of_block (key _ _ _).1 4⟩, w.heap.size + 1, by simp, cell_of_block (key _ _ _).1 0, cell_of_block (key _ _ _).2 1, frozen_of_block (key _ _ _).2 1⟩)⟩
end Go.Proofs.YtaedhbpfmjiheaaFmt
