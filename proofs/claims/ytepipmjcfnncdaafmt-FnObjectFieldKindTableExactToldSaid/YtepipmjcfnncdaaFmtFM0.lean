/- The contract of FodderMoveFront at two nil fodders. -/
import Derived.Test.YtepipmjcfnncdaaFmtNode
import Derived.WalkSpells
namespace Go.Proofs.YtepipmjcfnncdaaFmt
open Go.ChangeShapes Go.WideShapes Go.ChangeAt Go.RowKit

set_option maxRecDepth 100000 in
theorem fconc_nil (w : World) : Calls Tryf.prog 86 #[.slice none 0 0, .slice none 0 0] w fun e w' => e = .returned (.slice none 0 0) ∧ w' = w := by
  go_enter Tryf.func86, Tryf.ntmps86
  go_wp2
  go_ret
  exact ⟨rfl, rfl⟩

/-- What it leaves: the second fodder is an empty one of its own; nothing else has changed. -/
structure Moved0 (w : World) (base bb bo : Nat) (w' : World) : Prop where
  c : w'.cell? ⟨bb, bo, none⟩ = some (.slice (some ⟨w.heap.size, 0, none⟩) 0 0)
  f : Fod w' base (.slice (some ⟨w.heap.size, 0, none⟩) 0 0) []
  k : Kept [bb] w w'
  r : ∀ o, o ≠ bo → w'.cell? ⟨bb, o, none⟩ = w.cell? ⟨bb, o, none⟩
  z : ∀ o, w'.frozen? ⟨bb, o, none⟩ = w.frozen? ⟨bb, o, none⟩

theorem moved0_new {w : World} {base bb bo : Nat} {x : Value} (hb : base ≤ w.heap.size) (hc : w.cell? ⟨bb, bo, none⟩ = some x) :
    Moved0 w base bb bo ((w.setCell ⟨bb, bo, none⟩ (.slice (some ⟨w.heap.size, 0, none⟩) 0 0)).alloc (.cells #[] 162)).drew := by
  have hl : bb < w.heap.size := World.block_lt_of_cell? w ⟨bb, bo, none⟩ hc
  have hz : (w.setCell ⟨bb, bo, none⟩ (.slice (some ⟨w.heap.size, 0, none⟩) 0 0)).heap.size = w.heap.size := by simp
  have ka : Kept [] (w.setCell ⟨bb, bo, none⟩ (.slice (some ⟨w.heap.size, 0, none⟩) 0 0)) ((w.setCell ⟨bb, bo, none⟩ (.slice (some ⟨w.heap.size, 0, none⟩) 0 0)).alloc (.cells #[] 162)).drew := ((Kept.refl [] _).alloc _).drew
  have hn := heap_alloc_new (w.setCell ⟨bb, bo, none⟩ (.slice (some ⟨w.heap.size, 0, none⟩) 0 0)) (.cells #[] 162)
  rw [hz] at hn
  exact {
    c := ka.cell (World.cell?_setCell_same _ _ _ hc) (by simp)
    f := ⟨rfl, Or.inr ⟨w.heap.size, 0, #[], rfl, hb, hn, Nat.le_refl _, by unfold maxLen; omega, rfl, rfl⟩⟩
    k := (((Kept.refl [bb] w).setCell (p := ⟨bb, bo, none⟩) (Or.inl (by simp)) _).alloc _).drew
    r := fun o ho => (World.cell?_of_block (w := w.setCell ⟨bb, bo, none⟩ (.slice (some ⟨w.heap.size, 0, none⟩) 0 0)) (ka.block bb (by rw [hz]; exact hl) (by simp))).trans
      (World.cell?_setCell_other _ _ _ _ (fun e => ho (congrArg Addr.off e).symm))
    z := fun o => (World.frozen?_of_block (w := w.setCell ⟨bb, bo, none⟩ (.slice (some ⟨w.heap.size, 0, none⟩) 0 0)) (ka.block bb (by rw [hz]; exact hl) (by simp))).trans (World.frozen?_setCell _ _ _ _) }

set_option maxRecDepth 100000 in
set_option maxHeartbeats 1000000 in
theorem fmove_nil (w : World) (ab ao bb bo : Nat) (hca : w.cell? ⟨ab, ao, none⟩ = some (.slice none 0 0)) (hcb : w.cell? ⟨bb, bo, none⟩ = some (.slice none 0 0)) (hfa : w.frozen? ⟨ab, ao, none⟩ = false) (hfb : w.frozen? ⟨bb, bo, none⟩ = false) (base : Nat) (hb : base ≤ w.heap.size) :
    Calls Tryf.prog 71 #[.pointer (some ⟨ab, ao, none⟩), .pointer (some ⟨bb, bo, none⟩)] w fun e w' => e = .returned (.tuple #[]) ∧
      Moved0 w base bb bo w' := by
  have hself : w.setCell ⟨ab, ao, none⟩ (.slice none 0 0) = w := setCell_self hca
  have hbl : bb < w.heap.size := World.block_lt_of_cell? w _ hcb
  go_enter Tryf.func71, Tryf.ntmps71
  go_wp2_with fail
  go_still_tail 9, (by kernel_rfl)
  still_call (fconc_nil _)
  repeat still_step
  refine wpStill_nil ?_
  go_wp2_with fail
  go_end0
  exact ⟨rfl, moved0_new hb hcb⟩
end Go.Proofs.YtepipmjcfnncdaaFmt
