/- Plain laws: what a fodder counts, ends with and becomes, told by its codes. -/
import Derived.Test.YtgdipdbmllkckaaGreatFmtFamI
import Derived.Test.YtgdipdbmllkckaaGreatFmtE1
namespace Go.Proofs.YtgdipdbmllkckaaGreatFmt
open Go.ChangeShapes Go.WideShapes Go.ChangeAt Go.RowKit

/-- The code of an element. -/
def FE.snap (e : FE) : ZE := ⟨e.k, e.b, e.i, e.cl⟩
abbrev codes (l : List FE) : List ZE := l.map FE.snap

/-- The line breaks of an element, without wrapping. -/
def elx (e : FE) : Int := if e.k = 1 then 0 else if e.k = 0 then 1 else e.cl + e.b
def Sx : List FE → Int
  | [] => 0
  | e :: l => elx e + Sx l

theorem good_el {e : FE} (h : GoodE e.snap) : elNL e = elx e ∧ 0 ≤ elx e ∧ elx e ≤ 1099511631872 ∧ (nlE e.snap = decide (0 < elx e)) := by
  obtain ⟨ca, cl, cc, k, b, i⟩ := e
  obtain ⟨hk, h1, h2, h3, h4⟩ := h
  simp only [FE.snap] at hk h1 h2 h3 h4
  unfold elNL elx nlE FE.snap
  dsimp only
  rcases hk with rfl | rfl | rfl
  · simp
  · simp
  · have hw : wrap64 ((cl : Int) + b) = cl + b := by unfold wrap64; omega
    refine ⟨by simp [hw], by simp; omega, by simp; omega, ?_⟩
    rcases Nat.eq_zero_or_pos cl with rfl | hc
    · by_cases hb : 0 < b
      · have : 0 < ((0 : Nat) : Int) + b := by omega
        simp [hb]
      · have : ¬ 0 < ((0 : Nat) : Int) + b := by omega
        simp [hb]
    · have : 0 < (cl : Int) + b := by omega
      simp [this, hc]

theorem GoodL.cons {z : ZE} {ds : List ZE} (h : GoodL (z :: ds)) : GoodE z ∧ GoodL ds := ⟨h z (by simp), fun x hx => h x (by simp [hx])⟩

theorem fold_exact (l : List FE) : ∀ s : Int, GoodL (codes l) → 0 ≤ s → s + l.length * 1099511631872 ≤ 9223372036854775807 →
    l.foldl (fun s e => wrap64 (s + elNL e)) s = s + Sx l ∧ 0 ≤ Sx l ∧ Sx l ≤ l.length * 1099511631872 := by
  induction l with
  | nil => intro s _ _ _; simp [Sx]
  | cons e l ih =>
    intro s hg hs hb
    obtain ⟨he, hl⟩ := GoodL.cons hg
    obtain ⟨e1, e2, e3, _⟩ := good_el he
    simp only [List.length_cons, Int.natCast_add, Int.natCast_one] at hb
    have hw : wrap64 (s + elNL e) = s + elx e := by rw [e1]; unfold wrap64; omega
    obtain ⟨i1, i2, i3⟩ := ih (s + elx e) hl (by omega) (by omega)
    simp only [List.foldl_cons, hw, Sx, i1, List.length_cons, Int.natCast_add, Int.natCast_one]
    refine ⟨by omega, by omega, by omega⟩

theorem Sx_pos (l : List FE) (hg : GoodL (codes l)) : 0 ≤ Sx l ∧ (decide (0 < Sx l) = hasNL (codes l)) := by
  induction l with
  | nil => exact ⟨Int.le_refl _, rfl⟩
  | cons e l ih =>
    obtain ⟨he, hl⟩ := GoodL.cons hg
    obtain ⟨_, e2, _, e4⟩ := good_el he
    obtain ⟨i1, i2⟩ := ih hl
    refine ⟨by simp only [Sx]; omega, ?_⟩
    unfold hasNL at i2 ⊢
    simp only [codes, List.map_cons, List.any_cons, Sx]
    rw [e4]
    have i2' : (l.map FE.snap).any nlE = decide (0 < Sx l) := i2.symm
    rw [i2']
    by_cases h1 : 0 < elx e
    · have : 0 < elx e + Sx l := by omega
      simp [this, h1]
    · by_cases h2 : 0 < Sx l
      · have : 0 < elx e + Sx l := by omega
        simp [this, h2]
      · have : ¬ 0 < elx e + Sx l := by omega
        simp [this, h1, h2]

/-- A fodder counts a line break exactly if its codes hold one. -/
theorem sumNL_pos (l : List FE) (hg : GoodL (codes l)) (hl : l.length ≤ 1048577) : decide (0 < sumNL l) = hasNL (codes l) := by
  obtain ⟨h1, h2, h3⟩ := fold_exact l 0 hg (Int.le_refl _) (by omega)
  have : sumNL l = Sx l := by unfold sumNL; rw [h1]; omega
  rw [this]
  exact (Sx_pos l hg).2

theorem kinds_of_good {l : List FE} (hg : GoodL (codes l)) : Kinds l := fun e he => (hg e.snap (List.mem_map_of_mem he)).1

theorem clean_codes (l : List FE) : clean l = endsC (codes l) := by
  unfold clean endsC codes
  rw [List.getLast?_map]
  cases l.getLast? <;> rfl

/-- One bare line end at the end, unless the codes end a line already. -/
def ensE (ds : List ZE) : List ZE := if endsC ds then ds else ds ++ [⟨0, 0, 0, 0⟩]
theorem Ens.cod {l l' : List FE} (h : Ens l l') : codes l' = ensE (codes l) := by
  unfold ensE
  rcases h with ⟨h, rfl⟩ | ⟨h, ca, rfl⟩
  · rw [← clean_codes, h]; rfl
  · rw [← clean_codes, h]
    simp [FE.snap]
theorem ensE_ends (ds : List ZE) : endsC (ensE ds) = true := by
  unfold ensE
  split
  · assumption
  · unfold endsC; simp
theorem GoodL.ens {ds : List ZE} (h : GoodL ds) : GoodL (ensE ds) := by
  unfold ensE
  split
  · exact h
  · intro z hz
    rcases List.mem_append.1 hz with hz | hz
    · exact h z hz
    · simp at hz
      subst hz
      exact ⟨Or.inl rfl, by decide, by decide, by decide, by decide⟩
end Go.Proofs.YtgdipdbmllkckaaGreatFmt
