/- Many cells are written, one behind the other. -/
import Derived.Test.YtgdipdbmllkckaaGreatFmtCom
namespace Go.Proofs.YtgdipdbmllkckaaGreatFmt
open Go.ChangeShapes Go.WideShapes Go.ChangeAt Go.RowKit

/-- The cells of block g from o on become cs. -/
def putL (w : World) (g o : Nat) : List Value → World
  | [] => w
  | c :: cs => putL (w.setCell ⟨g, o, none⟩ c) g (o + 1) cs

theorem putL_kept (w : World) (g o : Nat) (cs : List Value) : Kept [g] w (putL w g o cs) := by
  induction cs generalizing w o with
  | nil => exact Kept.refl _ _
  | cons c cs ih => exact ((Kept.refl [g] w).setCell (p := ⟨g, o, none⟩) (Or.inl (by simp)) c).trans (ih _ _)
theorem putL_size (w : World) (g o : Nat) (cs : List Value) : (putL w g o cs).heap.size = w.heap.size := by
  induction cs generalizing w o with
  | nil => rfl
  | cons c cs ih => exact (ih _ _).trans (by simp)
theorem putL_out (w : World) (g o : Nat) (cs : List Value) (j : Nat) (h : j < o ∨ o + cs.length ≤ j) : (putL w g o cs).cell? ⟨g, j, none⟩ = w.cell? ⟨g, j, none⟩ := by
  induction cs generalizing w o with
  | nil => rfl
  | cons c cs ih =>
    simp only [List.length_cons] at h
    exact (ih _ _ (by omega)).trans (World.cell?_setCell_other _ _ _ _ (fun e => by injection e with _ e; omega))
theorem putL_frozen (w : World) (g o : Nat) (cs : List Value) (j : Nat) : (putL w g o cs).frozen? ⟨g, j, none⟩ = w.frozen? ⟨g, j, none⟩ := by
  induction cs generalizing w o with
  | nil => rfl
  | cons c cs ih => exact (ih _ _).trans (World.frozen?_setCell _ _ _ _)
theorem putL_at (w : World) (g o : Nat) (cs : List Value) (h : ∀ j, j < cs.length → ∃ u, w.cell? ⟨g, o + j, none⟩ = some u) (j : Nat) (hj : j < cs.length) : (putL w g o cs).cell? ⟨g, o + j, none⟩ = cs[j]? := by
  induction cs generalizing w o j with
  | nil => simp at hj
  | cons c cs ih =>
    cases j with
    | zero =>
      obtain ⟨u, hu⟩ := h 0 (by simp)
      exact (putL_out _ g (o + 1) cs o (Or.inl (by omega))).trans (World.cell?_setCell_same w ⟨g, o, none⟩ c hu)
    | succ j =>
      have := ih (w.setCell ⟨g, o, none⟩ c) (o + 1) (fun i hi => by
        obtain ⟨u, hu⟩ := h (i + 1) (by simp; omega)
        refine ⟨u, (World.cell?_setCell_other _ _ _ _ (fun e => by injection e with _ e; omega)).trans ?_⟩
        rw [show o + 1 + i = o + (i + 1) by omega]
        exact hu) j (by simpa using hj)
      rw [show o + (j + 1) = o + 1 + j by omega]
      exact this
end Go.Proofs.YtgdipdbmllkckaaGreatFmt
