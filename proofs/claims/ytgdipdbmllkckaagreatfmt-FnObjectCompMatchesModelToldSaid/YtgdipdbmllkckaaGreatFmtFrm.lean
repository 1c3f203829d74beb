/- The fields' row as a family of fodders. -/
import Derived.Test.YtgdipdbmllkckaaGreatFmtFy
namespace Go.Proofs.YtgdipdbmllkckaaGreatFmt
open Go.ChangeShapes Go.WideShapes Go.ChangeAt Go.RowKit

def flsOf (fs : List FY) (fb cap : Nat) : Fls := ⟨fs.length, fb, cap, fun i => (fs.getD i default).str, fun i => (fs.getD i default).y, fun i => (fs.getD i default).d, fun i => (fs.getD i default).idp⟩
def fV (fs : List FY) (x : Nat × Nat) : Value := (fs.getD (x.2 / 2) default).val (x.2 % 2 == 1)
def fL (fs : List FY) (x : Nat × Nat) : List FE := (fs.getD (x.2 / 2) default).fod (x.2 % 2 == 1)
theorem getD_at {fs : List FY} {i : Nat} (h : i < fs.length) : ∃ f, fs[i]? = some f ∧ fs.getD i default = f := by
  refine ⟨fs[i], List.getElem?_eq_getElem h, ?_⟩
  rw [List.getD_eq_getElem?_getD, List.getElem?_eq_getElem h]
  rfl
/-- The blocks that the fields' fodders lie in. -/
def fQ (fs : List FY) (fb : Nat) (g : Nat) : Prop := g = fb ∨ ∃ (i : Nat) (f : FY), fs[i]? = some f ∧ f.str = true ∧ g = f.y

theorem FRow.cell {w : World} {C fb cap : Nat} {fs : List FY} {zs : List (Bool × List ZE × List ZE)} (h : FRow w C (.slice (some ⟨fb, 0, none⟩) fs.length cap) fs zs) {i : Nat} {f : FY} (hf : fs[i]? = some f) (k : Nat) (hk : k < 18) : w.cell? ⟨fb, i * 18 + k, none⟩ = (encF f)[k]? := by
  obtain ⟨hi, e⟩ := List.getElem?_eq_some_iff.1 hf
  have := h.own.cell encF_len i hi k hk
  rw [e] at this
  exact this
theorem FRow.frozen {w : World} {C fb cap : Nat} {fs : List FY} {zs : List (Bool × List ZE × List ZE)} (h : FRow w C (.slice (some ⟨fb, 0, none⟩) fs.length cap) fs zs) (j : Nat) : w.frozen? ⟨fb, j, none⟩ = false :=
  World.ownsRow.frozenAt h.own j

/-- Where the fodder x lies. -/
theorem flPos (fs : List FY) (fb cap : Nat) (P : Pl) (n nb : Nat) {x : Nat × Nat} (h1 : x.1 = n + 1) (h2 : x.2 < 2 * fs.length) :
    ∃ f, fs[x.2 / 2]? = some f ∧ fV fs x = f.val (x.2 % 2 == 1) ∧ fL fs x = f.fod (x.2 % 2 == 1) ∧
      ((x.2 % 2 = 0 ∧ f.str = true ∧ ocp P n nb (flsOf fs fb cap) x = (f.y, 3)) ∨ (x.2 % 2 = 0 ∧ f.str = false ∧ ocp P n nb (flsOf fs fb cap) x = (fb, x.2 / 2 * 18 + 3)) ∨ (x.2 % 2 = 1 ∧ ocp P n nb (flsOf fs fb cap) x = (fb, x.2 / 2 * 18 + 4))) := by
  obtain ⟨f, hf, hg⟩ := getD_at (show x.2 / 2 < fs.length by omega)
  refine ⟨f, hf, by unfold fV; rw [hg], by unfold fL; rw [hg], ?_⟩
  unfold ocp flsOf
  dsimp only
  rw [if_pos h1]
  simp only [hg]
  by_cases hm : x.2 % 2 = 0
  · rw [if_pos hm]
    cases hs : f.str
    · exact Or.inr (Or.inl ⟨hm, rfl, by simp⟩)
    · exact Or.inl ⟨hm, rfl, by simp⟩
  · rw [if_neg hm]
    exact Or.inr (Or.inr ⟨by omega, rfl⟩)

theorem FRow.fam {w : World} {C fb cap : Nat} {fs : List FY} {zs : List (Bool × List ZE × List ZE)} (h : FRow w C (.slice (some ⟨fb, 0, none⟩) fs.length cap) fs zs) (P : Pl) (n nb : Nat) :
    FamI w C (fun x : Nat × Nat => x.1 = n + 1 ∧ x.2 < 2 * fs.length) (ocp P n nb (flsOf fs fb cap)) (fQ fs fb) (fV fs) (fL fs) := by
  have hfb := h.own.blk (g := fb) rfl
  have tyF : ∃ cs, w.heap[fb]? = some (.cells cs 74 (0, 0)) := h.own.typ fb (by simp [Value.ownBlock])
  have yfb : ∀ (i : Nat) f, fs[i]? = some f → f.str = true → f.y ≠ fb := fun i f hf hs e => by
    obtain ⟨c1, e1⟩ := (h.lit i f hf hs).1.typ
    obtain ⟨c2, e2⟩ := tyF
    rw [e, e2] at e1
    simp at e1
  have bit : ∀ x : Nat × Nat, x.2 % 2 = 0 → (x.2 % 2 == 1) = false := fun x hx => by simp [hx]
  have bit1 : ∀ x : Nat × Nat, x.2 % 2 = 1 → (x.2 % 2 == 1) = true := fun x hx => by simp [hx]
  exact {
    c := fun x hx => by
      obtain ⟨f, hf, e1, e2, hc⟩ := flPos fs fb cap P n nb hx.1 hx.2
      rw [e1]
      rcases hc with ⟨a, b, e⟩ | ⟨a, b, e⟩ | ⟨a, e⟩
      · rw [e, bit x a]
        exact (h.lit _ f hf b).1.cell.1
      · rw [e, bit x a]
        have := h.cell hf 3 (by omega)
        rw [this]
        simp [encF, b, FY.val]
      · rw [e, bit1 x a]
        have := h.cell hf 4 (by omega)
        rw [this]
        simp [encF, FY.val]
    f := fun x hx => by
      obtain ⟨f, hf, e1, e2, hc⟩ := flPos fs fb cap P n nb hx.1 hx.2
      rcases hc with ⟨a, b, e⟩ | ⟨a, b, e⟩ | ⟨a, e⟩
      · rw [e]; exact (h.lit _ f hf b).1.cell.2
      · rw [e]; exact h.frozen _
      · rw [e]; exact h.frozen _
    fod := fun x hx => by
      obtain ⟨f, hf, e1, e2, hc⟩ := flPos fs fb cap P n nb hx.1 hx.2
      rw [e1, e2]
      exact h.fo _ f hf _
    inj := fun x z hx hz hne heq => by
      obtain ⟨f, hf, -, -, hc⟩ := flPos fs fb cap P n nb hx.1 hx.2
      obtain ⟨g, hg, -, -, hd⟩ := flPos fs fb cap P n nb hz.1 hz.2
      have hx1 := hx.1
      have hz1 := hz.1
      have key : x.2 = z.2 → False := fun e => hne (Prod.ext (by omega) e)
      rcases hc with ⟨a, b, e⟩ | ⟨a, b, e⟩ | ⟨a, e⟩ <;> rcases hd with ⟨a', b', e'⟩ | ⟨a', b', e'⟩ | ⟨a', e'⟩ <;> rw [e, e'] at heq <;> simp only [Prod.mk.injEq] at heq
      · have hy := heq.1
        rcases Nat.lt_trichotomy (x.2 / 2) (z.2 / 2) with hlt | heq2 | hlt
        · have := h.yi _ _ f g hf hg hlt b b'; omega
        · exact key (by omega)
        · have := h.yi _ _ g f hg hf hlt b' b; omega
      · exact yfb _ f hf b heq.1
      · exact yfb _ f hf b heq.1
      · exact yfb _ g hg b' heq.1.symm
      · exact key (by omega)
      · omega
      · exact yfb _ g hg b' heq.1.symm
      · omega
      · exact key (by omega)
    dj := fun x z hx hz hne g hg => by
      obtain ⟨f, hf, e1, -, -⟩ := flPos fs fb cap P n nb hx.1 hx.2
      obtain ⟨f', hf', e1', -, -⟩ := flPos fs fb cap P n nb hz.1 hz.2
      rw [e1] at hg
      rw [e1']
      refine h.dj _ _ f f' _ _ hf hf' (fun e => ?_) g hg
      have hx1 := hx.1
      have hz1 := hz.1
      simp only [Prod.mk.injEq] at e
      obtain ⟨ea, eb⟩ := e
      have : x.2 % 2 = z.2 % 2 := by
        rcases Nat.mod_two_eq_zero_or_one x.2 with p | p <;> rcases Nat.mod_two_eq_zero_or_one z.2 with q | q <;> simp_all
      exact hne (Prod.ext (by omega) (by omega))
    q := fun x hx => by
      obtain ⟨f, hf, e1, e2, hc⟩ := flPos fs fb cap P n nb hx.1 hx.2
      rcases hc with ⟨a, b, e⟩ | ⟨a, b, e⟩ | ⟨a, e⟩
      · rw [e]; exact Or.inr ⟨_, f, hf, b, rfl⟩
      · rw [e]; exact Or.inl rfl
      · rw [e]; exact Or.inl rfl
    lt := fun b hb => by
      rcases hb with rfl | ⟨i, f, hf, hs, rfl⟩
      · exact hfb.2
      · obtain ⟨cs, hc⟩ := (h.lit i f hf hs).1.typ
        exact (Array.getElem?_eq_some_iff.1 hc).1
    bs := fun b hb => by
      rcases hb with rfl | ⟨i, f, hf, hs, rfl⟩
      · exact hfb.1
      · exact (h.lit i f hf hs).2
    sep := fun x hx g hg hq => by
      obtain ⟨f, hf, e1, e2, -⟩ := flPos fs fb cap P n nb hx.1 hx.2
      rw [e1] at hg
      obtain ⟨c0, hc0⟩ := (h.fo _ f hf (x.2 % 2 == 1)).own.typ g (by simp [hg])
      rcases hq with rfl | ⟨i, f', hf', hs', rfl⟩
      · obtain ⟨c1, hc1⟩ := tyF
        rw [hc1] at hc0
        simp at hc0
      · obtain ⟨c1, hc1⟩ := (h.lit i f' hf' hs').1.typ
        rw [hc1] at hc0
        simp at hc0 }
end Go.Proofs.YtgdipdbmllkckaaGreatFmt
