/- The contracts of ensureSpecExpanded and of its exported name. -/
import Derived.Test.YtgdipdbmllkckaaGreatFmtSe
namespace Go.Proofs.YtgdipdbmllkckaaGreatFmt
open Go.ChangeShapes Go.WideShapes Go.ChangeAt Go.RowKit

theorem FamTI.same {ι : Type} {w w' : World} {base : Nat} {I : ι → Prop} {p : ι → Nat × Nat} {Q : Nat → Prop} {l : ι → List FE} {D : ι → Prop} (h : FamTI w base I p Q l D w') : SameI I p Q w w' := by
  obtain ⟨_, _, _, _, h3, _⟩ := h
  exact h3

/-- What lies ready for the fodders of a chain to be ended. -/
structure EnsR (I : Nat × Nat → Prop) (p : Nat × Nat → Nat × Nat) (Q : Nat → Prop) (n : Nat) (P : Pl) (l : Nat × Nat → List FE) (w0 : World) (base : Nat) : Prop where
  inn : ∀ x, P.In n x → I x ∧ p x = P.pos x
  ch : ∀ w', SameI I p Q w0 w' → Chn w' n P
  short : ∀ x, I x → clean (l x) = false → (l x).length ≤ 1048576
  bs : base ≤ w0.heap.size

theorem Pl.pos0' (P : Pl) (i : Nat) : P.pos (i, 0) = (P.b i, P.o i) := by unfold Pl.pos; rw [if_pos rfl]
theorem Pl.posj' (P : Pl) (i j : Nat) : P.pos (i, j + 1) = (P.cb i, j * 2 + 1) := by unfold Pl.pos; rw [if_neg (by simp)]; rfl

theorem EnsR.at {I : Nat × Nat → Prop} {p : Nat × Nat → Nat × Nat} {Q : Nat → Prop} {n : Nat} {P : Pl} {l : Nat × Nat → List FE} {w0 w : World} {base : Nat} (h : EnsR I p Q n P l w0 base) {D : Nat × Nat → Prop} (ht : FamTI w0 base I p Q l D w) (x : Nat × Nat) (hx : P.In n x) (hD : ¬ D x) :
    Calls Tryz.prog 36 #[.pointer (some ⟨(P.pos x).1, (P.pos x).2, none⟩)] w fun e w' => e = .returned (.tuple #[]) ∧ FamTI w0 base I p Q l (fun i => D i ∨ i = x) w' := by
  have := ensure_FamI w base I x p Q l D w0 ht (h.inn x hx).1 hD (h.short x (h.inn x hx).1) h.bs
  rw [(h.inn x hx).2] at this
  exact this

/-- The fodders of the levels below k, and of level k the 'for' fodder and the first j 'if' fodders. -/
def upD (P : Pl) (D : Nat × Nat → Prop) (k j : Nat) : Nat × Nat → Prop := fun x => D x ∨ (x.1 < k ∧ x.2 ≤ P.m x.1) ∨ (x.1 = k ∧ x.2 ≤ j)
def downD (P : Pl) (D : Nat × Nat → Prop) (k : Nat) : Nat × Nat → Prop := fun x => D x ∨ (x.1 < k ∧ x.2 ≤ P.m x.1)

theorem downD_no {P : Pl} {D : Nat × Nat → Prop} {k : Nat} (h : ∀ x : Nat × Nat, x.1 ≤ k + 1 → ¬ D x) : ¬ downD P D (k + 1) (k + 1, 0) := by
  rintro (h1 | h1)
  · exact h (k + 1, 0) (Nat.le_refl _) h1
  · have := h1.1; dsimp only at this; omega
theorem upDs (P : Pl) (D : Nat × Nat → Prop) (k : Nat) (x : Nat × Nat) : (downD P D k x ∨ x = (k, 0)) ↔ upD P D k 0 x := by
  obtain ⟨x1, x2⟩ := x
  simp only [upD, downD, Prod.mk.injEq]
  constructor
  · rintro ((h | h) | h)
    · exact Or.inl h
    · exact Or.inr (Or.inl h)
    · exact Or.inr (Or.inr ⟨h.1, by omega⟩)
  · rintro (h | h | h)
    · exact Or.inl (Or.inl h)
    · exact Or.inl (Or.inr h)
    · exact Or.inr ⟨h.1, by omega⟩
theorem upD0 (P : Pl) (D : Nat × Nat → Prop) (x : Nat × Nat) : (D x ∨ x = (0, 0)) ↔ upD P D 0 0 x := by
  rw [← upDs]
  simp only [downD]
  constructor
  · rintro (h | h)
    · exact Or.inl (Or.inl h)
    · exact Or.inr h
  · rintro ((h | h) | h)
    · exact Or.inl h
    · exact absurd h.1 (by omega)
    · exact Or.inr h

set_option maxRecDepth 100000 in
set_option maxHeartbeats 4000000 in
theorem ensureSp_any (I : Nat × Nat → Prop) (p : Nat × Nat → Nat × Nat) (Q : Nat → Prop) (n : Nat) (P : Pl) (l : Nat × Nat → List FE) (w0 : World) (base : Nat) (he : EnsR I p Q n P l w0 base) (D : Nat × Nat → Prop) (k : Nat) : k < n → ∀ w, FamTI w0 base I p Q l D w → (∀ x, x.1 ≤ k → ¬ D x) →
    Calls Tryz.prog 37 #[.pointer (some ⟨P.b k, P.o k, none⟩)] w fun e w' => e = .returned (.tuple #[]) ∧ FamTI w0 base I p Q l (downD P D (k + 1)) w' := by
  have HE := Lib.hid he; clear he
  induction k with
  | zero =>
    intro hk w ht hD
    have hc := HE.out.ch w ht.same
    have a3 := hc.c3 0 hk
    rw [show P.out 0 = .pointer none from rfl] at a3
    have HT := Lib.hid ht; clear ht
    have HD := Lib.hid hD; clear hD
    clear hc
    go_enter Tryz.func37, Tryz.ntmps37
    go_wp2_with fail
    clear a3
    have h0 := HE.out.at HT.out (0, 0) ⟨hk, Nat.zero_le _⟩ (HD.out _ (Nat.le_refl _))
    rw [P.pos0'] at h0
    refine h0.mono ?_
    rintro e w1 ⟨rfl, ht1⟩
    have hc1 := HE.out.ch w1 ht1.same
    have a2 := hc1.c2 0 hk
    have hcat := hc1.ca 0 hk
    have hml := hc1.ml 0 hk
    obtain ⟨M, hM⟩ : ∃ M, P.m 0 = M := ⟨_, rfl⟩
    rw [hM] at hcat hml a2
    have HM := Lib.hid hM; clear hM
    have HCAT := Lib.hid hcat; clear hcat
    obtain ⟨ml1, ml2, ml3⟩ := hml
    unfold maxLen at ml2
    have ht2 : FamTI w0 base I p Q l (upD P D 0 0) w1 := ht1.congr (fun x hx => upD0 P D x)
    have HT2 := Lib.hid ht2
    clear ht1 ht2 hc1 h0
    go_wp2_with fail
    clear a2
    go_loopw [22] (fun i wr => ∃ j : Nat, j ≤ M ∧ i = .int .i64 j ∧ FamTI w0 base I p Q l (upD P D 0 j) wr) (fun i _ => M - (intOf i).toNat)
    case atStart => exact ⟨0, Nat.zero_le _, rfl, HT2.out⟩
    case round =>
      obtain ⟨j, hj, rfl, hq⟩ := hrel
      have HQ := Lib.hid hq
      by_cases hlt : j < M
      · have hcr := HE.out.ch wr hq.same
        have a2 := hcr.c2 0 hk
        rw [HM.out, HCAT.out (by omega)] at a2
        clear hcr hq
        have i1 : (0 : Int) ≤ (j : Int) := by omega
        have i2 : (j : Int) < (M : Int) := by omega
        go_wp2_with fail
        have hj0 := HE.out.at HQ.out (0, j + 1) ⟨hk, by rw [HM.out]; exact hlt⟩ (by
          rintro (h | h | h)
          · exact HD.out (0, j + 1) (Nat.le_refl _) h
          · have := h.1; dsimp only at this; omega
          · have := h.2; dsimp only at this; omega)
        rw [P.posj'] at hj0
        refine hj0.mono ?_
        rintro e w2 ⟨rfl, ht3⟩
        have ht4 : FamTI w0 base I p Q l (upD P D 0 (j + 1)) w2 := ht3.congr (fun x hx => by
          obtain ⟨x1, x2⟩ := x
          simp only [upD, Prod.mk.injEq]
          constructor
          · rintro ((h | h | h) | h)
            · exact Or.inl h
            · exact Or.inr (Or.inl h)
            · exact Or.inr (Or.inr ⟨h.1, by omega⟩)
            · exact Or.inr (Or.inr ⟨h.1, by omega⟩)
          · rintro (h | h | h)
            · exact Or.inl (Or.inl h)
            · exact Or.inl (Or.inr (Or.inl h))
            · by_cases hx2 : x2 = j + 1
              · exact Or.inr ⟨h.1, hx2⟩
              · exact Or.inl (Or.inr (Or.inr ⟨h.1, by omega⟩)))
        have HT4 := Lib.hid ht4
        clear ht3 ht4 hj0
        go_wp2_with fail
        exact ⟨⟨j + 1, by omega, by go_num, HT4.out⟩, by simp [intOf]; omega⟩
      · obtain rfl : j = M := by omega
        clear hq
        go_wp2_with fail
        go_end0
        refine ⟨rfl, HQ.out.congr (fun x hx => ?_)⟩
        obtain ⟨x1, x2⟩ := x
        simp only [upD, downD]
        constructor
        · rintro (h | h | h)
          · exact Or.inl h
          · exact Or.inr ⟨by omega, h.2⟩
          · exact Or.inr ⟨by omega, by rw [h.1, HM.out]; exact h.2⟩
        · rintro (h | h)
          · exact Or.inl h
          · by_cases hx1 : x1 = 0
            · exact Or.inr (Or.inr ⟨hx1, by have := h.2; rw [hx1, HM.out] at this; exact this⟩)
            · exact Or.inr (Or.inl ⟨by omega, h.2⟩)
  | succ k ih =>
    intro hk w ht hD
    have hc := HE.out.ch w ht.same
    have a3 := hc.c3 (k + 1) hk
    have hpo1 : P.out (k + 1) = .pointer (some ⟨P.b k, P.o k, none⟩) := by unfold Pl.out; rw [if_neg (by omega)]; rfl
    rw [hpo1] at a3
    have hrec := ih (by omega) w ht (fun x hx => hD x (by omega))
    have HREC := Lib.hid hrec; clear hrec
    have HD := Lib.hid hD; clear hD
    clear hc ht hpo1 ih
    go_enter Tryz.func37, Tryz.ntmps37
    go_wp2_with fail
    clear a3
    refine HREC.out.mono ?_
    rintro e w0' ⟨rfl, ht⟩
    have HT := Lib.hid ht; clear ht
    go_wp2_with fail
    have h0 := HE.out.at HT.out ((k + 1), 0) ⟨hk, Nat.zero_le _⟩ (downD_no HD.out)
    rw [P.pos0'] at h0
    refine h0.mono ?_
    rintro e w1 ⟨rfl, ht1⟩
    have hc1 := HE.out.ch w1 ht1.same
    have a2 := hc1.c2 (k + 1) hk
    have hcat := hc1.ca (k + 1) hk
    have hml := hc1.ml (k + 1) hk
    obtain ⟨M, hM⟩ : ∃ M, P.m (k + 1) = M := ⟨_, rfl⟩
    rw [hM] at hcat hml a2
    have HM := Lib.hid hM; clear hM
    have HCAT := Lib.hid hcat; clear hcat
    obtain ⟨ml1, ml2, ml3⟩ := hml
    unfold maxLen at ml2
    have ht2 : FamTI w0 base I p Q l (upD P D (k + 1) 0) w1 := ht1.congr (fun x hx => upDs P D (k + 1) x)
    have HT2 := Lib.hid ht2
    clear ht1 ht2 hc1 h0
    go_wp2_with fail
    clear a2
    go_loopw [22] (fun i wr => ∃ j : Nat, j ≤ M ∧ i = .int .i64 j ∧ FamTI w0 base I p Q l (upD P D (k + 1) j) wr) (fun i _ => M - (intOf i).toNat)
    case atStart => exact ⟨0, Nat.zero_le _, rfl, HT2.out⟩
    case round =>
      obtain ⟨j, hj, rfl, hq⟩ := hrel
      have HQ := Lib.hid hq
      by_cases hlt : j < M
      · have hcr := HE.out.ch wr hq.same
        have a2 := hcr.c2 (k + 1) hk
        rw [HM.out, HCAT.out (by omega)] at a2
        clear hcr hq
        have i1 : (0 : Int) ≤ (j : Int) := by omega
        have i2 : (j : Int) < (M : Int) := by omega
        go_wp2_with fail
        have hj0 := HE.out.at HQ.out ((k + 1), j + 1) ⟨hk, by rw [HM.out]; exact hlt⟩ (by
          rintro (h | h | h)
          · exact HD.out ((k + 1), j + 1) (Nat.le_refl _) h
          · have := h.1; dsimp only at this; omega
          · have := h.2; dsimp only at this; omega)
        rw [P.posj'] at hj0
        refine hj0.mono ?_
        rintro e w2 ⟨rfl, ht3⟩
        have ht4 : FamTI w0 base I p Q l (upD P D (k + 1) (j + 1)) w2 := ht3.congr (fun x hx => by
          obtain ⟨x1, x2⟩ := x
          simp only [upD, Prod.mk.injEq]
          constructor
          · rintro ((h | h | h) | h)
            · exact Or.inl h
            · exact Or.inr (Or.inl h)
            · exact Or.inr (Or.inr ⟨h.1, by omega⟩)
            · exact Or.inr (Or.inr ⟨h.1, by omega⟩)
          · rintro (h | h | h)
            · exact Or.inl (Or.inl h)
            · exact Or.inl (Or.inr (Or.inl h))
            · by_cases hx2 : x2 = j + 1
              · exact Or.inr ⟨h.1, hx2⟩
              · exact Or.inl (Or.inr (Or.inr ⟨h.1, by omega⟩)))
        have HT4 := Lib.hid ht4
        clear ht3 ht4 hj0
        go_wp2_with fail
        exact ⟨⟨j + 1, by omega, by go_num, HT4.out⟩, by simp [intOf]; omega⟩
      · obtain rfl : j = M := by omega
        clear hq
        go_wp2_with fail
        go_end0
        refine ⟨rfl, HQ.out.congr (fun x hx => ?_)⟩
        obtain ⟨x1, x2⟩ := x
        simp only [upD, downD]
        constructor
        · rintro (h | h | h)
          · exact Or.inl h
          · exact Or.inr ⟨by omega, h.2⟩
          · exact Or.inr ⟨by omega, by rw [h.1, HM.out]; exact h.2⟩
        · rintro (h | h)
          · exact Or.inl h
          · by_cases hx1 : x1 = (k + 1)
            · exact Or.inr (Or.inr ⟨hx1, by have := h.2; rw [hx1, HM.out] at this; exact this⟩)
            · exact Or.inr (Or.inl ⟨by omega, h.2⟩)

end Go.Proofs.YtgdipdbmllkckaaGreatFmt
