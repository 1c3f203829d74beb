/- The contract of n008_142's zzSnapSpec. -/
import Derived.Test.YtgdipdbmllkckaaGreatFmtEq
namespace Go.Proofs.YtgdipdbmllkckaaGreatFmt
attribute [local go_sem ↓] Go.wp_at_zero Go.wp_at_succ
open Go.ChangeShapes Go.WideShapes Go.ChangeAt Go.RowKit

theorem flatG_set {α : Type} {enc : α → List Value} {c : Nat} (he : ∀ y, (enc y).length = c) (l : List α) (i : Nat) (y y' : α) (h : l[i]? = some y) (j : Nat) (hj : j < c) (u : Value) (hc : enc y' = (enc y).set j u) :
    (flatG enc l).set (i * c + j) u = flatG enc (l.set i y') := by
  induction l generalizing i with
  | nil => simp at h
  | cons x l ih =>
    cases i with
    | zero =>
      simp only [List.getElem?_cons_zero, Option.some.injEq] at h
      subst h
      simp only [flatG, Nat.zero_mul, Nat.zero_add, List.set_cons_zero]
      rw [List.set_append_left _ _ (by rw [he]; exact hj), hc]
    | succ i =>
      simp only [List.getElem?_cons_succ] at h
      simp only [flatG, List.set_cons_succ]
      rw [List.set_append_right _ _ (by rw [he, Nat.succ_mul]; omega), ← ih i h]
      congr 2
      rw [he, Nat.succ_mul]; omega
theorem OwnR.set {α : Type} {T c : Nat} {enc : α → List Value} {w : World} {base g n cap : Nat} {l : List α} (h : OwnR T c enc w base (.slice (some ⟨g, 0, none⟩) n cap) l) (he : ∀ y, (enc y).length = c) (i : Nat) (y y' : α) (hy : l[i]? = some y) (j : Nat) (hj : j < c) (u : Value) (hc : enc y' = (enc y).set j u) :
    OwnR T c enc (w.setCell ⟨g, i * c + j, none⟩ u) base (.slice (some ⟨g, 0, none⟩) n cap) (l.set i y') := by
  have hn : n = l.length := by
    obtain ⟨a', cap', hv, _⟩ := h.slice
    injection hv
  subst hn
  have := (World.ownsRow.stored h (i * c + j) u).1
  rw [flatG_set he l i y y' hy j hj u hc] at this
  unfold OwnR
  rw [List.length_set]
  exact this
theorem made_pairs (n : Nat) : (madeCells #[.slice none 0 0, .slice none 0 0] (n * 2)).toList = flatG encP (List.replicate n (((none, 0, 0), (none, 0, 0)) : Trip × Trip)) := by
  apply List.ext_getElem?
  intro j
  by_cases hj : j < n * 2
  · have e : j = (j / 2) * 2 + j % 2 := by omega
    have h4 : j % 2 < 2 := Nat.mod_lt _ (by omega)
    have hl : (flatG encP (List.replicate n (((none, 0, 0), (none, 0, 0)) : Trip × Trip)))[j]? = (encP (((none, 0, 0), (none, 0, 0)) : Trip × Trip))[j % 2]? := by
      have := flatG_get encP_len (List.replicate n (((none, 0, 0), (none, 0, 0)) : Trip × Trip)) (j / 2) (by simp; omega) (j % 2) h4
      rw [← e] at this
      simpa using this
    rw [hl]
    simp only [madeCells, Array.toList_map, List.getElem?_map, Array.toList_range]
    rw [List.getElem?_range hj]
    simp only [Option.map_some, List.size_toArray, List.length_cons, List.length_nil]
    generalize j % 2 = r at h4
    match r, h4 with
    | 0, _ => rfl
    | 1, _ => rfl
  · rw [List.getElem?_eq_none (by simp [madeCells]; omega), List.getElem?_eq_none (by rw [flatG_length encP_len]; simp; omega)]

/-- What zzSnapSpec writes of a level. -/
def snapSE (P : Pl) (l : Nat × Nat → List FE) (i : Nat) : SE := ⟨codes (l (i, 0)), (List.range (P.m i)).map fun j => codes (l (i, j + 1))⟩
def snaps (P : Pl) (l : Nat × Nat → List FE) (n : Nat) : List SE := (List.range n).map (snapSE P l)
theorem Sn.snaps (P : Pl) (l : Nat × Nat → List FE) (n : Nat) : Sn P l n (snaps P l n) := by
  intro i s hi hs
  unfold Go.Proofs.YtgdipdbmllkckaaGreatFmt.snaps at hs
  rw [List.getElem?_map, List.getElem?_range hi] at hs
  obtain rfl : snapSE P l i = s := by simpa using hs
  refine ⟨by simp [snapSE], rfl, fun j d hd => ?_⟩
  simp only [snapSE, List.getElem?_map] at hd
  have hj : j < P.m i := by
    by_cases hj : j < P.m i
    · exact hj
    · rw [List.getElem?_eq_none (by simp; omega)] at hd; cases hd
  rw [List.getElem?_range hj] at hd
  simpa using hd

/-- The levels from k on are written. -/
def Fill (w : World) (B n k : Nat) (P : Pl) (l : Nat × Nat → List FE) : Prop :=
  ∃ us : List (Trip × Trip), OwnR 79 2 encP w B (.slice (some ⟨B, 0, none⟩) n n) us ∧ us.length = n ∧ ∀ (i : Nat) u, k ≤ i → us[i]? = some u → SpO w B u (snapSE P l i)
theorem Fill.kept0 {w w' : World} {B n k : Nat} {P : Pl} {l : Nat × Nat → List FE} (h : Fill w B n k P l) (q : Kept [] w w') : Fill w' B n k P l := by
  obtain ⟨us, h1, h2, h3⟩ := h
  exact ⟨us, h1.kept0 q, h2, fun i u hi hu => (h3 i u hi hu).kept0 q⟩
theorem Fill.free {w : World} {B n k : Nat} {P : Pl} {l : Nat × Nat → List FE} (h : Fill w B n k P l) (i : Nat) (hi : i < n) : (∃ x y, w.cell? ⟨B, i * 2, none⟩ = some x ∧ w.cell? ⟨B, i * 2 + 1, none⟩ = some y) ∧ ∀ o, w.frozen? ⟨B, o, none⟩ = false := by
  obtain ⟨us, h1, h2, h3⟩ := h
  subst h2
  refine ⟨?_, fun o => World.ownsRow.frozenAt h1 o⟩
  have c0 := h1.cell encP_len i (by omega) 0 (by omega)
  have c1 := h1.cell encP_len i (by omega) 1 (by omega)
  exact ⟨_, _, c0, c1⟩
theorem Fill.step {w : World} {B n k : Nat} {P : Pl} {l : Nat × Nat → List FE} (h : Fill w B n (k + 1) P l) (hk : k < n) {t1 t2 : Trip} (hs : SpO w B (t1, t2) (snapSE P l k)) :
    Fill ((w.setCell ⟨B, k * 2, none⟩ t1.val).setCell ⟨B, k * 2 + 1, none⟩ t2.val) B n k P l := by
  obtain ⟨us, h1, h2, h3⟩ := h
  have hku : k < us.length := by omega
  have e0 := List.getElem?_eq_getElem hku
  have g1 := h1.set encP_len k us[k] (t1, us[k].2) e0 0 (by omega) t1.val rfl
  have g2 := g1.set encP_len k (t1, us[k].2) (t1, t2) (by rw [List.getElem?_set_self hku]) 1 (by omega) t2.val rfl
  rw [List.set_set] at g2
  have ty := h1.typ
  have q : Kept [B] w ((w.setCell ⟨B, k * 2, none⟩ t1.val).setCell ⟨B, k * 2 + 1, none⟩ t2.val) := ((Kept.refl [B] w).setCell (p := ⟨B, k * 2, none⟩) (Or.inl (by simp)) _).setCell (p := ⟨B, k * 2 + 1, none⟩) (Or.inl (by simp)) _
  have tyB : ∀ g ∈ [B], ∃ cs, w.heap[g]? = some (.cells cs 79 (0, 0)) := fun g hg => by
    simp at hg; subst hg; exact ty g (by simp [Value.ownBlock])
  refine ⟨us.set k (t1, t2), g2, by rw [List.length_set]; exact h2, fun i u hi hu => ?_⟩
  rw [List.getElem?_set] at hu
  by_cases hki : k = i
  · subst hki
    rw [if_pos rfl, if_pos hku] at hu
    obtain rfl : (t1, t2) = u := by simpa using hu
    exact hs.keptT q tyB (by decide) (by decide)
  · rw [if_neg hki] at hu
    exact (h3 i u (by omega) hu).keptT q tyB (by decide) (by decide)
theorem Fill.done {w : World} {B n : Nat} {P : Pl} {l : Nat × Nat → List FE} (h : Fill w B n 0 P l) : RdS w (some ⟨B, 0, none⟩) n n (snaps P l n) := by
  obtain ⟨us, h1, h2, h3⟩ := h
  refine SpsO.rds (base := B) ⟨us, h1, by simp [snaps, h2], fun i u s hu hs => ?_⟩
  unfold snaps at hs
  have hi : i < n := by
    by_cases hi : i < n
    · exact hi
    · rw [List.getElem?_eq_none (by simp; omega)] at hs; cases hs
  rw [List.getElem?_map, List.getElem?_range hi] at hs
  obtain rfl : snapSE P l i = s := by simpa using hs
  exact h3 i u (Nat.zero_le _) hu

end Go.Proofs.YtgdipdbmllkckaaGreatFmt
