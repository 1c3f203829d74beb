/- Rows of codes that the law FnFixNewlinesObjectIdempotent writes down; the object that was built, its parts unnamed. -/
import Derived.Test.YtfacfgecnpeceaaFmtGv
import Derived.Test.YtfacfgecnpeceaaFmtSnps
namespace Go.Proofs.YtfacfgecnpeceaaFmt
open Go.ChangeShapes Go.WideShapes Go.ChangeAt Go.RowKit

/-- Of the n cells of block C the first k hold what the fodders are written down as; those rows lie behind D. -/
structure SnpB (w : World) (C D n k : Nat) (l : Nat → List FE) : Prop where
  at' : ∀ i, i < k → ∃ v, w.cell? ⟨C, i, none⟩ = some v ∧ Snp w D v ((l i).map FE.snap)
  free : ∀ j, j < n → ∃ u, w.cell? ⟨C, j, none⟩ = some u
  fr : ∀ o, w.frozen? ⟨C, o, none⟩ = false
  el : C < D ∧ D ≤ w.heap.size
theorem SnpB.kept {w w' : World} {C D n k : Nat} {l : Nat → List FE} (h : SnpB w C D n k l) (q : Kept [] w w') : SnpB w' C D n k l where
  at' := fun i hi => by
    obtain ⟨v, h1, h2⟩ := h.at' i hi
    exact ⟨v, q.cell h1 (by simp), h2.kept q (by simp)⟩
  free := fun j hj => by
    obtain ⟨u, hu⟩ := h.free j hj
    exact ⟨u, q.cell hu (by simp)⟩
  fr := fun o => (q.frozen (p := ⟨C, o, none⟩) (by dsimp only; have := h.el; omega) (by simp)).trans (h.fr o)
  el := ⟨h.el.1, Nat.le_trans h.el.2 q.size⟩
theorem Snp.far {w w' : World} {S : List Nat} {b D : Nat} {x : Value} {m : List ZE} (h : Snp w b x m) (q : Kept S w w') (hS : ∀ g ∈ S, g < b) (hD : D ≤ b) : Snp w' D x m := by
  have h2 : Snp w' b x m := h.kept q (fun g hg hm => by have := (World.ownsRow.lt h g hg).1; have := hS g hm; omega)
  refine ⟨h2.1, ?_⟩
  rcases h2.2 with h | ⟨g, cap, cur, e1, e2, e3⟩
  · exact Or.inl h
  · exact Or.inr ⟨g, cap, cur, e1, by omega, e3⟩
theorem SnpB.step {w w1 : World} {C D n k : Nat} {l : Nat → List FE} {v : Value} (h : SnpB w C D n k l) (hk : k < n) (q : Kept [] w w1) (hv : Snp w1 w.heap.size v ((l k).map FE.snap)) : SnpB (w1.setCell ⟨C, k, none⟩ v) C D n (k + 1) l := by
  have h1 := h.kept q
  have hel := h.el
  have qs : Kept [C] w1 (w1.setCell ⟨C, k, none⟩ v) := (Kept.refl [C] w1).setCell (p := ⟨C, k, none⟩) (Or.inl (by simp)) _
  obtain ⟨u, hu⟩ := h1.free k hk
  exact {
    at' := fun i hi => by
      by_cases hik : i = k
      · subst hik
        exact ⟨v, World.cell?_setCell_same _ _ _ hu, hv.far qs (fun g hg => by rw [List.mem_singleton.1 hg]; omega) hel.2⟩
      · obtain ⟨x, a1, a2⟩ := h1.at' i (by omega)
        exact ⟨x, (World.cell?_setCell_other _ _ _ _ (fun e => by injection e with _ e; omega)).trans a1, a2.far qs (fun g hg => by rw [List.mem_singleton.1 hg]; omega) (Nat.le_refl _)⟩
    free := fun j hj => by
      by_cases hjk : j = k
      · subst hjk
        exact ⟨v, World.cell?_setCell_same _ _ _ hu⟩
      · obtain ⟨x, hx⟩ := h1.free j hj
        exact ⟨x, (World.cell?_setCell_other _ _ _ _ (fun e => by injection e with _ e; omega)).trans hx⟩
    fr := fun o => (World.frozen?_setCell _ _ _ _).trans (h1.fr o)
    el := ⟨hel.1, Nat.le_trans h1.el.2 qs.size⟩ }
theorem SnpB.other {w w1 : World} {C D n k : Nat} {l : Nat → List FE} (h : SnpB w C D n k l) (q : Kept [] w w1) (C' o : Nat) (v : Value) (hc : C' < D) (hne : C ≠ C') : SnpB (w1.setCell ⟨C', o, none⟩ v) C D n k l := by
  have h1 := h.kept q
  have qs : Kept [C'] w1 (w1.setCell ⟨C', o, none⟩ v) := (Kept.refl [C'] w1).setCell (p := ⟨C', o, none⟩) (Or.inl (by simp)) _
  have hn : C ∉ [C'] := by simpa using hne
  exact {
    at' := fun i hi => by
      obtain ⟨x, a1, a2⟩ := h1.at' i hi
      exact ⟨x, qs.cell a1 hn, a2.far qs (fun g hg => by rw [List.mem_singleton.1 hg]; exact hc) (Nat.le_refl _)⟩
    free := fun j hj => by
      obtain ⟨x, hx⟩ := h1.free j hj
      exact ⟨x, qs.cell hx hn⟩
    fr := fun o => (World.frozen?_setCell _ _ _ _).trans (h1.fr o)
    el := ⟨h1.el.1, Nat.le_trans h1.el.2 qs.size⟩ }

theorem gE_congr {F : Gs} {l l' : Nat × Nat → List FE} (h : ∀ x, gI F x → l' x = l x) : gE F l' = gE F l := by
  unfold gE goTo
  rw [h _ (gI_c F)]
  congr 1
  rw [Bool.eq_iff_iff]
  simp only [List.any_eq_true, List.mem_range]
  constructor
  · rintro ⟨i, hi, e⟩
    exact ⟨i, hi, by rw [← h _ (gI_o hi)]; exact e⟩
  · rintro ⟨i, hi, e⟩
    exact ⟨i, hi, by rw [h _ (gI_o hi)]; exact e⟩

theorem zzBuildObject_ob (w : World) (a : Option Addr) (len cap : Nat) (ds : List GR) (a2 : Option Addr) (len2 cap2 : Nat) (d2 : List ZE) (h : IsG w a len cap ds) (h2 : IsZ w a2 len2 cap2 d2) (hg : GoodG len ds) (hg2 : GoodZ len2 d2) (hlen : len ≤ 1048576) (hlen2 : len2 ≤ 1048576) (hs : SmallG len ds) :
    Calls Tryf.prog 9 #[.slice a len cap, .slice a2 len2 cap2] w fun e w' => ∃ ob lb F Q v l, F.nf = len ∧ e = .returned (.tuple #[.pointer (some ⟨ob, 0, none⟩), .slice (some ⟨lb, 0, none⟩) len len]) ∧ OB w' w.heap.size ob F Q v l ∧ (∀ x, gI F x → Kinds (l x) ∧ (l x).length ≤ 1048576) ∧ LitR w' lb len F ∧ Q lb ∧ (∀ x, gI F x → (gp F ob x).1 ≠ lb) ∧ Kept [] w w' := by
  refine (zzBuildObject_any w a len cap ds a2 len2 cap2 d2 h h2 hg hg2 hlen hlen2 hs).mono ?_
  rintro e w' ⟨ob, fb, lb, fs, u, m, h1, h2, h3, h4, h5, h6, h7⟩
  exact ⟨ob, lb, gsOf fs fb, gQ fs fb lb ob, gV fs u, gL fs m, h1, h2, h3, h4, fun j hj => h5 j hj, Or.inr (Or.inr (Or.inl rfl)), h6, h7⟩
/-- The pass over the object: what a second run of it needs to know. -/
theorem zzFixObject_lit (w : World) (base ob lb n : Nat) (F : Gs) (Q : Nat → Prop) (v : Nat × Nat → Value) (l : Nat × Nat → List FE) (h : OB w base ob F Q v l) (hk : ∀ x, gI F x → Kinds (l x) ∧ (l x).length ≤ 1048576) (hL : LitR w lb n F) (hq : Q lb) (hp : ∀ x, gI F x → (gp F ob x).1 ≠ lb) (hb : base ≤ w.heap.size) :
    Calls Tryf.prog 10 #[.pointer (some ⟨ob, 0, none⟩)] w fun e w' => e = .returned (.tuple #[]) ∧ ∃ Q' v' l', OB w' base ob F Q' v' l' ∧ (∀ x, gI F x → Kinds (l' x) ∧ (l' x).length ≤ 1048577 ∧ (clean (l' x) = false → (l' x).length ≤ 1048576)) ∧ LitR w' lb n F ∧
      (gE F l' = true → ∀ x, gI F x → gS F x → clean (l' x) = true) ∧ Below base w w' := by
  refine (zzFixObject w base ob F Q v l h (fun x hx => (hk x hx).1) (fun x hx _ => (hk x hx).2) hb).mono ?_
  rintro e w' ⟨rfl, Q', v', l', h1, h2, h3, -, h5, -⟩
  refine ⟨rfl, Q', v', l', h1, fun x hx => ?_, fun j hj => (World.cell?_of_block (h5 lb hq hp)).trans (hL j hj), fun hx' x hx hs => ?_, h3⟩
  · have a := hk x hx
    rcases h2 x hx with ⟨_, _, h⟩ | ⟨_, h⟩
    · exact ⟨h.kinds a.1, by have := h.len; omega, fun hc => by rw [h.clean] at hc; cases hc⟩
    · rw [h]; exact ⟨a.1, by omega, fun _ => a.2⟩
  · by_cases he : gE F l = true
    · rcases h2 x hx with ⟨_, _, h⟩ | ⟨h | h, _⟩
      · exact h.clean
      · exact absurd hs h
      · rw [h] at he; cases he
    · have := gE_congr (l := l) (l' := l') (fun y hy => by
        rcases h2 y hy with ⟨_, h, _⟩ | ⟨_, h⟩
        · exact absurd h he
        · exact h)
      rw [this] at hx'
      exact absurd hx' he
end Go.Proofs.YtfacfgecnpeceaaFmt
