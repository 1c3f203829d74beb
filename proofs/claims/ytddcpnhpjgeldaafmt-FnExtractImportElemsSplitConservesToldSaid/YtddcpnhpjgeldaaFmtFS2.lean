/- What splitFodder and FodderEnsureCleanNewline do to the sums: no interstitial, no comment line and no blank line is lost or doubled. Plain Lean. -/
import Derived.Test.YtddcpnhpjgeldaaFmtFS1
namespace Go.Proofs.YtddcpnhpjgeldaaFmt
open Go.ChangeShapes Go.WideShapes Go.ChangeAt Go.RowKit

def sumOf (g : ZE → Int) : List ZE → Int
  | [] => 0
  | e :: z => g e + sumOf g z
theorem sumOf_append (g : ZE → Int) (a b : List ZE) : sumOf g (a ++ b) = sumOf g a + sumOf g b := by
  induction a with
  | nil => simp [sumOf]
  | cons e a ih => simp only [List.cons_append, sumOf, ih]; omega
theorem sumOf_one (g : ZE → Int) (e : ZE) : sumOf g [e] = g e := by simp [sumOf]
def gI (e : ZE) : Int := if e.k = 1 then 1 else 0
def gC (e : ZE) : Int := e.c
def gB (e : ZE) : Int := e.b
theorem w64_l (a b : Int) : wrap64 (wrap64 a + b) = wrap64 (a + b) := by unfold wrap64; omega
theorem w64_r (a b : Int) : wrap64 (a + wrap64 b) = wrap64 (a + b) := by unfold wrap64; omega
/-- What the sums are made of. -/
structure Good (g : ZE → Int) : Prop where
  merge : ∀ x e : ZE, e.k = 0 → e.c = 0 → wrap64 (g ⟨x.k, wrap64 (x.b + e.b), e.i, x.c⟩) = wrap64 (g x + g e)
  para : ∀ e : ZE, e.k = 0 → g ⟨2, e.b, e.i, e.c⟩ = g e
  zero : ∀ i : Int, g ⟨0, 0, i, 0⟩ = 0
  cut : ∀ e : ZE, e.k ≠ 1 → g ⟨e.k, 0, e.i, e.c⟩ + g ⟨0, e.b, e.i, 0⟩ = g e
theorem goodI : Good gI := by
  constructor
  · intro x e h1 h2; unfold gI; simp [h1]
  · intro e h1; unfold gI; simp [h1]
  · intro i; unfold gI; simp
  · intro e h1; unfold gI; simp [h1]
theorem goodC : Good gC := by
  constructor
  · intro x e h1 h2; unfold gC; simp [h2]
  · intro e h1; rfl
  · intro i; rfl
  · intro e h1; unfold gC; simp
theorem goodB : Good gB := by
  constructor
  · intro x e h1 h2; unfold gB; dsimp only; unfold wrap64; omega
  · intro e h1; rfl
  · intro i; rfl
  · intro e h1; unfold gB; simp
theorem sumOf_modify {g : ZE → Int} (f : ZE → ZE) (d : Int) (h : ∀ x, wrap64 (g (f x)) = wrap64 (g x + d)) : ∀ (z : List ZE) (i : Nat), i < z.length → wrap64 (sumOf g (z.modify i f)) = wrap64 (sumOf g z + d) := by
  intro z
  induction z with
  | nil => intro i hi; cases hi
  | cons x z ih =>
    intro i hi
    cases i with
    | zero =>
      simp only [List.modify_zero_cons, sumOf]
      have := h x
      rw [← w64_l, this, w64_l]
      congr 1; omega
    | succ i =>
      simp only [List.modify_succ_cons, sumOf]
      have := ih i (by simpa using hi)
      rw [← w64_r, this, w64_r]
      congr 1; omega
theorem cleanC_pos {z : List ZE} (h : cleanC z = true) : 0 < z.length := by
  cases z with
  | nil => cases h
  | cons _ _ => simp
theorem sumOf_step {g : ZE → Int} (hg : Good g) (z : List ZE) (e : ZE) (he : 0 ≤ e.c) : wrap64 (sumOf g (stepC z e)) = wrap64 (sumOf g z + g e) := by
  unfold stepC
  split
  · rename_i h
    split
    · rw [sumOf_append, sumOf_one, hg.para e h.2]
    · rename_i hc
      exact sumOf_modify _ _ (fun x => hg.merge x e h.2 (by omega)) z _ (by have := cleanC_pos h.1; omega)
  · split
    · rw [sumOf_append]
      simp only [sumOf]
      rw [hg.zero]
      congr 1; omega
    · rw [sumOf_append, sumOf_one]
/-- The sums of the two parts are the whole's sums. -/
theorem split_sum {g : ZE → Int} (hg : Good g) (z : List ZE) (hz : ∀ e ∈ z, 0 ≤ e.c) : wrap64 (sumOf g (splitS z).1 + sumOf g (splitS z).2.1) = wrap64 (sumOf g z) := by
  have key : ∀ (m : Nat), m ≤ z.length → wrap64 (sumOf g (splitS (z.take m)).1 + sumOf g (splitS (z.take m)).2.1) = wrap64 (sumOf g (z.take m)) := by
    intro m
    induction m with
    | zero => intro _; simp [splitS, sumOf]
    | succ m ih =>
      intro hm
      have h0 := ih (by omega)
      obtain ⟨e, he⟩ : ∃ e, z[m]? = some e := ⟨_, List.getElem?_eq_getElem (by omega)⟩
      have hec := hz e (List.mem_of_getElem? he)
      rw [take_snoc he, splitS_snoc, sumOf_append, sumOf_one]
      generalize sumOf g (z.take m) = s at *
      generalize splitS (z.take m) = t at *
      obtain ⟨A, B, sb⟩ := t
      dsimp only at h0
      unfold stepS
      dsimp only
      have fin : ∀ x, wrap64 (sumOf g A + sumOf g B + x) = wrap64 (s + x) := by
        intro x
        rw [← w64_l, h0, w64_l]
      split
      · dsimp only
        rw [← w64_r, sumOf_step hg B e hec, w64_r, ← Int.add_assoc]
        exact fin _
      · split
        · dsimp only
          rw [sumOf_append, sumOf_one, ← fin]
          congr 1; omega
        · rename_i h1
          split
          · dsimp only
            rw [sumOf_append, sumOf_one, sumOf_append, sumOf_one, ← fin, ← hg.cut e h1]
            congr 1; omega
          · dsimp only
            rw [sumOf_append, sumOf_one, ← fin]
            congr 1; omega
  have := key z.length (Nat.le_refl _)
  rwa [List.take_length] at this
/-- The fodder as it was, with one plain line end added where it ends no line. -/
def ens (z : List ZE) : List ZE := if cleanC z = true then z else z ++ [⟨0, 0, 0, 0⟩]
theorem ens_sum {g : ZE → Int} (hg : Good g) (z : List ZE) : sumOf g (ens z) = sumOf g z := by
  unfold ens
  split
  · rfl
  · rw [sumOf_append, sumOf_one, hg.zero]; omega
theorem ens_len (z : List ZE) : (ens z).length ≤ z.length + 1 := by
  unfold ens
  split <;> simp
theorem ens_clean (z : List ZE) : cleanC (ens z) = true := by
  unfold ens
  split
  · assumption
  · unfold cleanC
    simp
theorem ens_ge (z : List ZE) : z.length ≤ (ens z).length := by
  unfold ens
  split <;> simp
theorem ens_at (z : List ZE) (i : Nat) (hi : i < z.length) : (ens z)[i]? = z[i]? := by
  unfold ens
  split
  · rfl
  · rw [List.getElem?_append_left hi]
theorem cleanC_last {z : List ZE} (h : cleanC z = true) : ∃ n e, z.length = n + 1 ∧ z[n]? = some e ∧ e.k ≠ 1 := by
  have hp := cleanC_pos h
  refine ⟨z.length - 1, z[z.length - 1]'(by omega), by omega, List.getElem?_eq_getElem _, ?_⟩
  unfold cleanC at h
  rw [List.getLast?_eq_getElem?, List.getElem?_eq_getElem (show z.length - 1 < z.length by omega)] at h
  simpa using h
end Go.Proofs.YtddcpnhpjgeldaaFmt
