/- A family of fodders, told by indices of any type, in cells of blocks that belong to one structure; what FodderEnsureCleanNewline on some of them leaves. -/
import Derived.Test.YtfacfgecnpeceaaFmtNL
namespace Go.Proofs.YtfacfgecnpeceaaFmt
open Go.ChangeShapes Go.WideShapes Go.ChangeAt Go.RowKit

/-- One bare line end at the end, unless the fodder ends a line already. -/
def Ens (l l' : List FE) : Prop := (clean l = true ∧ l' = l) ∨ (clean l = false ∧ ∃ ca, l' = l ++ [⟨ca, 0, 0, 0, 0, 0⟩])
theorem clean_snoc (l : List FE) (e : FE) : clean (l ++ [e]) = (e.k != 1) := by unfold clean; simp
theorem Ens.clean {l l' : List FE} (h : Ens l l') : clean l' = true := by
  rcases h with ⟨h, rfl⟩ | ⟨_, ca, rfl⟩
  · exact h
  · rw [clean_snoc]; rfl
theorem Ens.kinds {l l' : List FE} (h : Ens l l') (hk : Kinds l) : Kinds l' := by
  rcases h with ⟨_, rfl⟩ | ⟨_, ca, rfl⟩
  · exact hk
  · exact hk.snoc _ (Or.inl rfl)
theorem Ens.len {l l' : List FE} (h : Ens l l') : l'.length ≤ l.length + 1 := by
  rcases h with ⟨_, rfl⟩ | ⟨_, ca, rfl⟩
  · omega
  · simp

/-- One value of a function is another. -/
def putI {ι α : Type} [DecidableEq ι] (f : ι → α) (k : ι) (u : α) : ι → α := fun i => if i = k then u else f i
theorem putI_same {ι α : Type} [DecidableEq ι] (f : ι → α) (k : ι) (u : α) : putI f k u k = u := if_pos rfl
theorem putI_other {ι α : Type} [DecidableEq ι] (f : ι → α) (k : ι) (u : α) {i : ι} (h : i ≠ k) : putI f k u i = f i := if_neg h

/-- The fodders l i lie in the cells p i; the blocks of the structure are those of which Q is true. -/
structure FamI {ι : Type} (w : World) (base : Nat) (I : ι → Prop) (p : ι → Nat × Nat) (Q : Nat → Prop) (v : ι → Value) (l : ι → List FE) : Prop where
  c : ∀ i, I i → w.cell? ⟨(p i).1, (p i).2, none⟩ = some (v i)
  f : ∀ i, I i → w.frozen? ⟨(p i).1, (p i).2, none⟩ = false
  fod : ∀ i, I i → Fod w base (v i) (l i)
  inj : ∀ i j, I i → I j → i ≠ j → p i ≠ p j
  dj : ∀ i j, I i → I j → i ≠ j → ∀ g, (v i).ownBlock = some g → (v j).ownBlock ≠ some g
  q : ∀ i, I i → Q (p i).1
  lt : ∀ b, Q b → b < w.heap.size
  bs : ∀ b, Q b → base ≤ b
  sep : ∀ i, I i → ∀ g, (v i).ownBlock = some g → ¬ Q g

/-- Of the structure's blocks no cell but the fodders' has changed. -/
structure SameI {ι : Type} (I : ι → Prop) (p : ι → Nat × Nat) (Q : Nat → Prop) (w w' : World) : Prop where
  cell : ∀ b o, Q b → (∀ i, I i → p i ≠ (b, o)) → w'.cell? ⟨b, o, none⟩ = w.cell? ⟨b, o, none⟩
  fr : ∀ b o, Q b → w'.frozen? ⟨b, o, none⟩ = w.frozen? ⟨b, o, none⟩
  blk : ∀ b, Q b → (∀ i, I i → (p i).1 ≠ b) → w'.heap[b]? = w.heap[b]?

theorem SameI.of_kept {ι : Type} {I : ι → Prop} {p : ι → Nat × Nat} {Q : Nat → Prop} {w w' : World} (q : Kept [] w w') (lt : ∀ b, Q b → b < w.heap.size) : SameI I p Q w w' :=
  ⟨fun b _ hb _ => World.cell?_of_block (q.block b (lt b hb) (by simp)), fun b _ hb => World.frozen?_of_block (q.block b (lt b hb) (by simp)), fun b hb _ => q.block b (lt b hb) (by simp)⟩
theorem SameI.trans {ι : Type} {I : ι → Prop} {p : ι → Nat × Nat} {Q : Nat → Prop} {a b c : World} (h : SameI I p Q a b) (k : SameI I p Q b c) : SameI I p Q a c :=
  ⟨fun x o hx ho => (k.cell x o hx ho).trans (h.cell x o hx ho), fun x o hx => (k.fr x o hx).trans (h.fr x o hx), fun x hx ho => (k.blk x hx ho).trans (h.blk x hx ho)⟩

theorem FamI.kept {w w' : World} {ι : Type} {base : Nat} {I : ι → Prop} {p : ι → Nat × Nat} {Q : Nat → Prop} {v : ι → Value} {l : ι → List FE} (h : FamI w base I p Q v l) (q : Kept [] w w') : FamI w' base I p Q v l where
  c := fun i hi => q.cell (h.c i hi) (by simp)
  f := fun i hi => (q.frozen (World.block_lt_of_cell? w _ (h.c i hi)) (by simp)).trans (h.f i hi)
  fod := fun i hi => (h.fod i hi).kept q (by simp)
  inj := h.inj
  dj := h.dj
  q := h.q
  lt := fun b hb => Nat.lt_of_lt_of_le (h.lt b hb) q.size
  bs := h.bs
  sep := h.sep

theorem FamI.appd {w w' : World} {ι : Type} [DecidableEq ι] {base : Nat} {I : ι → Prop} {k : ι} {p : ι → Nat × Nat} {Q : Nat → Prop} {v : ι → Value} {l : ι → List FE} {l' : List FE} (h : FamI w base I p Q v l) (hk : I k) (ha : Appd w base (p k).1 (p k).2 (v k) l' w') :
    ∃ v', FamI w' base I p Q (putI v k v') (putI l k l') ∧ SameI I p Q w w' ∧ Kept ((p k).1 :: (v k).ownBlock.toList) w w' ∧ ∀ g, v'.ownBlock = some g → (v k).ownBlock = some g ∨ w.heap.size ≤ g := by
  obtain ⟨v', a1, a2, a3, a4, a5, a6⟩ := ha
  have notS : ∀ b, Q b → b ≠ (p k).1 → b ∉ (p k).1 :: (v k).ownBlock.toList := fun b hb h1 hm => by
    simp at hm
    rcases hm with e | e
    · exact h1 e
    · exact h.sep k hk b e hb
  have cel : ∀ b o, Q b → (b, o) ≠ p k → w'.cell? ⟨b, o, none⟩ = w.cell? ⟨b, o, none⟩ := fun b o hb hne => by
    by_cases hbk : b = (p k).1
    · subst hbk
      exact a6.1 o (fun e => hne (by rw [e]))
    · exact World.cell?_of_block (a4.block b (h.lt b hb) (notS b hb hbk))
  have fre : ∀ b o, Q b → w'.frozen? ⟨b, o, none⟩ = w.frozen? ⟨b, o, none⟩ := fun b o hb => by
    by_cases hbk : b = (p k).1
    · subst hbk
      exact a6.2 o
    · exact World.frozen?_of_block (a4.block b (h.lt b hb) (notS b hb hbk))
  have lt := fun (i : ι) (hi : I i) (g : Nat) (hg : (v i).ownBlock = some g) => (World.ownsRow.lt (h.fod i hi) g hg).2
  refine ⟨v', ?_, ⟨fun b o hb ho => cel b o hb (fun e => ho k hk e.symm), fre, fun b hb ho => a4.block b (h.lt b hb) (notS b hb (fun e => ho k hk e.symm))⟩, a4, fun g hg => (a5 g hg).2⟩
  exact {
    c := fun i hi => by
      by_cases hik : i = k
      · subst hik
        rw [putI_same]
        exact a1
      · rw [putI_other _ _ _ hik, cel _ _ (h.q i hi) (fun e => h.inj i k hi hk hik e)]
        exact h.c i hi
    f := fun i hi => (fre _ _ (h.q i hi)).trans (h.f i hi)
    fod := fun i hi => by
      by_cases hik : i = k
      · subst hik
        rw [putI_same, putI_same]
        exact a3
      · rw [putI_other _ _ _ hik, putI_other _ _ _ hik]
        refine (h.fod i hi).kept a4 (fun g hg hm => ?_)
        simp at hm
        rcases hm with e | e
        · exact h.sep i hi g hg (e ▸ h.q k hk)
        · exact h.dj i k hi hk hik g hg e
    inj := h.inj
    dj := fun i j hi hj hij g hg => by
      by_cases hik : i = k
      · subst hik
        rw [putI_same] at hg
        rw [putI_other _ _ _ (Ne.symm hij)]
        rcases (a5 g hg).2 with e | e
        · exact h.dj i j hi hj hij g e
        · intro e2
          have := lt j hj g e2
          omega
      · rw [putI_other _ _ _ hik] at hg
        by_cases hjk : j = k
        · subst hjk
          rw [putI_same]
          intro e2
          rcases (a5 g e2).2 with e | e
          · exact h.dj i j hi hj hij g hg e
          · have := lt i hi g hg
            omega
        · rw [putI_other _ _ _ hjk]
          exact h.dj i j hi hj hij g hg
    q := h.q
    lt := fun b hb => Nat.lt_of_lt_of_le (h.lt b hb) a4.size
    bs := h.bs
    sep := fun i hi g hg => by
      by_cases hik : i = k
      · subst hik
        rw [putI_same] at hg
        rcases (a5 g hg).2 with e | e
        · exact h.sep i hi g e
        · intro hq
          have := h.lt g hq
          omega
      · rw [putI_other _ _ _ hik] at hg
        exact h.sep i hi g hg }

/-- What is left when the fodders of which D is true have been ended. -/
def FamTI {ι : Type} (w : World) (base : Nat) (I : ι → Prop) (p : ι → Nat × Nat) (Q : Nat → Prop) (l : ι → List FE) (D : ι → Prop) (w' : World) : Prop :=
  ∃ v' l', FamI w' base I p Q v' l' ∧ (∀ i, I i → (D i ∧ Ens (l i) (l' i)) ∨ (¬ D i ∧ l' i = l i)) ∧ SameI I p Q w w' ∧ Below base w w' ∧ ((∀ i, I i → D i → clean (l i) = true) → Kept [] w w')

theorem FamTI.start {w w' : World} {ι : Type} {base : Nat} {I : ι → Prop} {p : ι → Nat × Nat} {Q : Nat → Prop} {v : ι → Value} {l : ι → List FE} (h : FamI w base I p Q v l) (q : Kept [] w w') (hb : base ≤ w.heap.size) (D : ι → Prop) (hD : ∀ i, I i → ¬ D i) : FamTI w base I p Q l D w' :=
  ⟨v, l, h.kept q, fun i hi => Or.inr ⟨hD i hi, rfl⟩, SameI.of_kept q h.lt, q.below hb (by simp), fun _ => q⟩
theorem FamTI.kept {w w' w'' : World} {ι : Type} {base : Nat} {I : ι → Prop} {p : ι → Nat × Nat} {Q : Nat → Prop} {l : ι → List FE} {D : ι → Prop} (h : FamTI w base I p Q l D w') (q : Kept [] w' w'') (hb : base ≤ w.heap.size) : FamTI w base I p Q l D w'' := by
  obtain ⟨v', l', h1, h2, h3, h4, h5⟩ := h
  exact ⟨v', l', h1.kept q, h2, h3.trans (SameI.of_kept q h1.lt), h4.trans (q.below (Nat.le_trans hb h4.size) (by simp)), fun hc => (h5 hc).trans q⟩
theorem FamTI.before {w0 w w' : World} {ι : Type} {base : Nat} {I : ι → Prop} {p : ι → Nat × Nat} {Q : Nat → Prop} {l : ι → List FE} {D : ι → Prop} (h : FamTI w base I p Q l D w') (q : Kept [] w0 w) (hb : base ≤ w0.heap.size) (lt : ∀ b, Q b → b < w0.heap.size) : FamTI w0 base I p Q l D w' := by
  obtain ⟨v', l', h1, h2, h3, h4, h5⟩ := h
  exact ⟨v', l', h1, h2, (SameI.of_kept q lt).trans h3, (q.below hb (by simp)).trans h4, fun hc => q.trans (h5 hc)⟩
theorem FamTI.congr {w w' : World} {ι : Type} {base : Nat} {I : ι → Prop} {p : ι → Nat × Nat} {Q : Nat → Prop} {l : ι → List FE} {D D' : ι → Prop} (h : FamTI w base I p Q l D w') (e : ∀ i, I i → (D i ↔ D' i)) : FamTI w base I p Q l D' w' := by
  obtain ⟨v', l', h1, h2, h3, h4, h5⟩ := h
  refine ⟨v', l', h1, fun i hi => ?_, h3, h4, fun hc => h5 (fun i hi hd => hc i hi ((e i hi).1 hd))⟩
  rcases h2 i hi with ⟨a, b⟩ | ⟨a, b⟩
  · exact Or.inl ⟨(e i hi).1 a, b⟩
  · exact Or.inr ⟨fun hd => a ((e i hi).2 hd), b⟩

theorem Appd.stay {w : World} {base pb po : Nat} {v : Value} {l : List FE} (h : Fod w base v l) (hp : w.cell? ⟨pb, po, none⟩ = some v) (hpf : w.frozen? ⟨pb, po, none⟩ = false) (hpv : ∀ g, v.ownBlock = some g → g ≠ pb) : Appd w base pb po v l w :=
  ⟨v, hp, hpf, h, Kept.refl _ _, fun g hg => ⟨hpv g hg, Or.inl hg⟩, ⟨fun _ _ => rfl, fun _ => rfl⟩⟩

/-- One more fodder is ended. -/
theorem ensure_FamI {ι : Type} [DecidableEq ι] (w : World) (base : Nat) (I : ι → Prop) (k : ι) (p : ι → Nat × Nat) (Q : Nat → Prop) (l : ι → List FE) (D : ι → Prop) (w0 : World) (ht : FamTI w0 base I p Q l D w) (hk : I k) (hD : ¬ D k) (hl : clean (l k) = false → (l k).length ≤ 1048576) (hb : base ≤ w0.heap.size) :
    Calls Tryf.prog 23 #[.pointer (some ⟨(p k).1, (p k).2, none⟩)] w fun e w' => e = .returned (.tuple #[]) ∧ FamTI w0 base I p Q l (fun i => D i ∨ i = k) w' := by
  obtain ⟨v', l', h1, h2, h3, h4, h5⟩ := ht
  have hc := h1.c k hk
  have e : l' k = l k := by
    rcases h2 k hk with ⟨a, _⟩ | ⟨_, e⟩
    · exact absurd a hD
    · exact e
  have hf := h1.fod k hk
  rw [e] at hf
  have hpv : ∀ g, (v' k).ownBlock = some g → g ≠ (p k).1 := fun g hg e => h1.sep k hk g hg (e ▸ h1.q k hk)
  have step : ∀ w' l1, Ens (l k) l1 → Appd w base (p k).1 (p k).2 (v' k) l1 w' → (clean (l k) = true → w = w') → FamTI w0 base I p Q l (fun i => D i ∨ i = k) w' := by
    intro w' l1 he ha hst
    obtain ⟨u, q1, q2, q3, q4⟩ := h1.appd hk ha
    refine ⟨putI v' k u, putI l' k l1, q1, fun i hi => ?_, h3.trans q2, ?_, fun hc => ?_⟩
    · by_cases hik : i = k
      · subst hik
        rw [putI_same]
        exact Or.inl ⟨Or.inr rfl, he⟩
      · rw [putI_other _ _ _ hik]
        rcases h2 i hi with ⟨a, b⟩ | ⟨a, b⟩
        · exact Or.inl ⟨Or.inl a, b⟩
        · exact Or.inr ⟨fun hd => by rcases hd with hd | hd; exact a hd; exact hik hd, b⟩
    · refine h4.trans (q3.below (Nat.le_trans hb h4.size) ?_)
      intro b hb'
      simp at hb'
      rcases hb' with e | e
      · subst e; exact h1.bs _ (h1.q k hk)
      · exact (World.ownsRow.lt (h1.fod k hk) b e).1
    · have := hst (hc k hk (Or.inr rfl))
      subst this
      exact h5 (fun i hi hd => hc i hi (Or.inl hd))
  cases hcl : clean (l k)
  · refine (ensure_add w base _ _ (v' k) (l k) hf hc (h1.f k hk) hpv (hl hcl) (Nat.le_trans hb h4.size) hcl).mono ?_
    rintro e w' ⟨rfl, ca, ha⟩
    exact ⟨rfl, step w' _ (Or.inr ⟨hcl, ca, rfl⟩) ha (fun h => by rw [hcl] at h; cases h)⟩
  · refine (ensure_clean w base _ _ (v' k) (l k) hf hc hcl).mono ?_
    rintro e w' ⟨rfl, rfl⟩
    exact ⟨rfl, step w _ (Or.inl ⟨hcl, rfl⟩) (Appd.stay hf hc (h1.f k hk) hpv) (fun _ => rfl)⟩

end Go.Proofs.YtfacfgecnpeceaaFmt
