/- Rows of codes that the law writes down, one for each fodder; bounds on what came in. -/
import Derived.Test.YtfacfgecnpeceaaFmtZ4s
namespace Go.Proofs.YtfacfgecnpeceaaFmt
open Go.ChangeShapes Go.WideShapes Go.ChangeAt Go.RowKit

/-- No row, and not their number, is over 2^20. -/
def SmallZZ (len : Nat) (ds : List ZRow) : Prop := len ≤ 1048576 ∧ ∀ i r, i < len → ds[i]? = some r → r.l ≤ 1048576

def SmallR (k : Nat) (ds : List ZRow) : Prop := ∀ i r, i < k → ds[i]? = some r → r.l ≤ 1048576

theorem Tryf.infoRow : (Tryf.prog.info? 23).map (fun i => (i.zero, i.size, i.bytes)) = some (some (.slice none 0 0), 1, 24) := by kernel_rfl

/-- Of the n cells of block C the first k hold what the fodders are written down as. -/
structure Snps (w : World) (C n k : Nat) (l : Nat → List FE) : Prop where
  at' : ∀ i, i < k → ∃ v, w.cell? ⟨C, i, none⟩ = some v ∧ Snp w (C + 1) v ((l i).map FE.snap)
  free : ∀ j, j < n → ∃ u, w.cell? ⟨C, j, none⟩ = some u
  fr : ∀ o, w.frozen? ⟨C, o, none⟩ = false
  el : C < w.heap.size
theorem Snps.kept {w w' : World} {C n k : Nat} {l : Nat → List FE} (h : Snps w C n k l) (q : Kept [] w w') : Snps w' C n k l where
  at' := fun i hi => by
    obtain ⟨v, h1, h2⟩ := h.at' i hi
    exact ⟨v, q.cell h1 (by simp), h2.kept q (by simp)⟩
  free := fun j hj => by
    obtain ⟨u, hu⟩ := h.free j hj
    exact ⟨u, q.cell hu (by simp)⟩
  fr := fun o => (q.frozen (p := ⟨C, o, none⟩) h.el (by simp)).trans (h.fr o)
  el := Nat.lt_of_lt_of_le h.el q.size

theorem Snps.step {w w1 : World} {C n k : Nat} {l : Nat → List FE} {v : Value} (h : Snps w C n k l) (hk : k < n) (q : Kept [] w w1) (hv : Snp w1 w.heap.size v ((l k).map FE.snap)) : Snps (w1.setCell ⟨C, k, none⟩ v) C n (k + 1) l := by
  have h1 := h.kept q
  have qs : Kept [C] w1 (w1.setCell ⟨C, k, none⟩ v) := (Kept.refl [C] w1).setCell (p := ⟨C, k, none⟩) (Or.inl (by simp)) _
  obtain ⟨u, hu⟩ := h1.free k hk
  have far : ∀ {x : Value} {b : Nat} {m : List ZE}, Snp w1 b x m → C < b → Snp (w1.setCell ⟨C, k, none⟩ v) (C + 1) x m := by
    intro x b m hx hb
    have hx2 : Snp (w1.setCell ⟨C, k, none⟩ v) b x m := hx.kept qs (fun g hg => by have := (World.ownsRow.lt hx g hg).1; simp; omega)
    refine ⟨hx2.1, ?_⟩
    rcases hx2.2 with h | ⟨g, cap, cur, e1, e2, e3⟩
    · exact Or.inl h
    · exact Or.inr ⟨g, cap, cur, e1, by omega, e3⟩
  exact {
    at' := fun i hi => by
      by_cases hik : i = k
      · subst hik
        exact ⟨v, World.cell?_setCell_same _ _ _ hu, far hv h.el⟩
      · obtain ⟨x, a1, a2⟩ := h1.at' i (by omega)
        exact ⟨x, (World.cell?_setCell_other _ _ _ _ (fun e => by injection e with _ e; omega)).trans a1, far a2 (by omega)⟩
    free := fun j hj => by
      by_cases hjk : j = k
      · subst hjk
        exact ⟨v, World.cell?_setCell_same _ _ _ hu⟩
      · obtain ⟨x, hx⟩ := h1.free j hj
        exact ⟨x, (World.cell?_setCell_other _ _ _ _ (fun e => by injection e with _ e; omega)).trans hx⟩
    fr := fun o => (World.frozen?_setCell _ _ _ _).trans (h1.fr o)
    el := Nat.lt_of_lt_of_le h1.el qs.size }

end Go.Proofs.YtfacfgecnpeceaaFmt
