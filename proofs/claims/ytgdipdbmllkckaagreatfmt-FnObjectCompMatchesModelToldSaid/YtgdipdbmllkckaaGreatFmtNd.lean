/- Families of fodders are put together; a chain's last level is moved into a node. -/
import Derived.Test.YtgdipdbmllkckaaGreatFmtMv
namespace Go.Proofs.YtgdipdbmllkckaaGreatFmt
open Go.ChangeShapes Go.WideShapes Go.ChangeAt Go.RowKit

theorem FamI.wider {ι : Type} {w : World} {base : Nat} {I : ι → Prop} {p : ι → Nat × Nat} {Q Q' : Nat → Prop} {v : ι → Value} {l : ι → List FE} (h : FamI w base I p Q v l) (hq : ∀ g, Q g → Q' g) (lt : ∀ g, Q' g → g < w.heap.size) (bs : ∀ g, Q' g → base ≤ g) (sep : ∀ x, I x → ∀ g, (v x).ownBlock = some g → ¬ Q' g) : FamI w base I p Q' v l :=
  { h with q := fun x hx => hq _ (h.q x hx), lt := lt, bs := bs, sep := sep }
theorem FamI.as {ι : Type} {w : World} {base : Nat} {I I' : ι → Prop} {p p' : ι → Nat × Nat} {Q : Nat → Prop} {v v' : ι → Value} {l l' : ι → List FE} (h : FamI w base I p Q v l) (hI : ∀ x, I' x → I x) (hp : ∀ x, I' x → p' x = p x) (hv : ∀ x, I' x → v' x = v x) (hl : ∀ x, I' x → l' x = l x) : FamI w base I' p' Q v' l' where
  c := fun x hx => by rw [hp x hx, hv x hx]; exact h.c x (hI x hx)
  f := fun x hx => by rw [hp x hx]; exact h.f x (hI x hx)
  fod := fun x hx => by rw [hv x hx, hl x hx]; exact h.fod x (hI x hx)
  inj := fun x y hx hy hne => by rw [hp x hx, hp y hy]; exact h.inj x y (hI x hx) (hI y hy) hne
  dj := fun x y hx hy hne => by rw [hv x hx, hv y hy]; exact h.dj x y (hI x hx) (hI y hy) hne
  q := fun x hx => by rw [hp x hx]; exact h.q x (hI x hx)
  lt := h.lt
  bs := h.bs
  sep := fun x hx => by rw [hv x hx]; exact h.sep x (hI x hx)

theorem FamI.one {ι : Type} {w : World} {base b o : Nat} {k : ι} {p : ι → Nat × Nat} {v : ι → Value} {l : ι → List FE} (hp : p k = (b, o)) (c : w.cell? ⟨b, o, none⟩ = some (v k)) (f : w.frozen? ⟨b, o, none⟩ = false) (fod : Fod w base (v k) (l k)) (hb : base ≤ b) (sep : ∀ g, (v k).ownBlock = some g → g ≠ b) :
    FamI w base (fun x => x = k) p (fun g => g = b) v l where
  c := fun x hx => by subst hx; rw [hp]; exact c
  f := fun x hx => by subst hx; rw [hp]; exact f
  fod := fun x hx => by subst hx; exact fod
  inj := fun x y hx hy hne => absurd (hx.trans hy.symm) hne
  dj := fun x y hx hy hne => absurd (hx.trans hy.symm) hne
  q := fun x hx => by subst hx; rw [hp]
  lt := fun g hg => by subst hg; exact World.block_lt_of_cell? w _ c
  bs := fun g hg => by subst hg; exact hb
  sep := fun x hx g hg => by subst hx; exact sep g hg

theorem FamI.or {ι : Type} {w : World} {base : Nat} {I I2 : ι → Prop} {p : ι → Nat × Nat} {Q Q2 : Nat → Prop} {v : ι → Value} {l : ι → List FE} (h : FamI w base I p Q v l) (k : FamI w base I2 p Q2 v l)
    (hp : ∀ x y, I x → I2 y → p x ≠ p y) (hd : ∀ x y, I x → I2 y → ∀ g, (v x).ownBlock = some g → (v y).ownBlock ≠ some g) (hs : ∀ x, I x → ∀ g, (v x).ownBlock = some g → ¬ Q2 g) (hs2 : ∀ x, I2 x → ∀ g, (v x).ownBlock = some g → ¬ Q g) :
    FamI w base (fun x => I x ∨ I2 x) p (fun g => Q g ∨ Q2 g) v l where
  c := fun x hx => by rcases hx with hx | hx; exact h.c x hx; exact k.c x hx
  f := fun x hx => by rcases hx with hx | hx; exact h.f x hx; exact k.f x hx
  fod := fun x hx => by rcases hx with hx | hx; exact h.fod x hx; exact k.fod x hx
  inj := fun x y hx hy hne => by
    rcases hx with hx | hx
    · rcases hy with hy | hy
      · exact h.inj x y hx hy hne
      · exact hp x y hx hy
    · rcases hy with hy | hy
      · exact fun e => hp y x hy hx e.symm
      · exact k.inj x y hx hy hne
  dj := fun x y hx hy hne g hg => by
    rcases hx with hx | hx
    · rcases hy with hy | hy
      · exact h.dj x y hx hy hne g hg
      · exact hd x y hx hy g hg
    · rcases hy with hy | hy
      · exact fun e => hd y x hy hx g e hg
      · exact k.dj x y hx hy hne g hg
  q := fun x hx => by rcases hx with hx | hx; exact Or.inl (h.q x hx); exact Or.inr (k.q x hx)
  lt := fun g hg => by rcases hg with hg | hg; exact h.lt g hg; exact k.lt g hg
  bs := fun g hg => by rcases hg with hg | hg; exact h.bs g hg; exact k.bs g hg
  sep := fun x hx g hg hq => by
    rcases hx with hx | hx
    · rcases hq with hq | hq
      · exact h.sep x hx g hg hq
      · exact hs x hx g hg hq
    · rcases hq with hq | hq
      · exact hs2 x hx g hg hq
      · exact k.sep x hx g hg hq

def Pl.to (P : Pl) (k g o : Nat) : Pl := { P with b := putI P.b k g, o := putI P.o k o }
theorem Pl.to_pos (P : Pl) (k g o : Nat) (x : Nat × Nat) : (P.to k g o).pos x = if x = (k, 0) then (g, o) else P.pos x := by
  obtain ⟨i, j⟩ := x
  cases j with
  | zero =>
    rw [Pl.pos0, Pl.pos0]
    by_cases hi : i = k
    · subst hi
      rw [if_pos rfl]
      show (putI P.b i g i, putI P.o i o i) = _
      rw [putI_same, putI_same]
    · rw [if_neg (by simpa using hi)]
      show (putI P.b k g i, putI P.o k o i) = _
      rw [putI_other _ _ _ hi, putI_other _ _ _ hi]
  | succ j =>
    rw [Pl.posj, Pl.posj, if_neg (by simp)]
    rfl

/-- The last level of a chain has been copied to (g, o), in a new block. -/
theorem Raw.moveTo {w w' : World} {base n g o : Nat} {P : Pl} {v : Nat × Nat → Value} {l : Nat × Nat → List FE} (h : Raw w base (n + 1) P v l) (q : Kept [] w w') (hb : base ≤ w.heap.size)
    (hc : ∀ j, j < 7 → w'.cell? ⟨g, o + j, none⟩ = ([v (n, 0), .slice none 0 0, .slice (P.ca n) (P.m n) (P.cc n), P.out n, nulI (P.xe n), .string ⟨#[120]⟩, .slice none 0 0] : List Value)[j]?) (hf : w'.frozen? ⟨g, o, none⟩ = false) (hg : w.heap.size ≤ g) :
    Chn w' (n + 1) (P.to n g o) ∧ FamI w' base ((P.to n g o).In (n + 1)) (P.to n g o).pos (fun x => P.Q (n + 1) x ∨ x = g) v l ∧ Frees ((P.to n g o).In (n + 1)) (P.to n g o).pos (n + 1) (P.to n g o) ∧ (∀ x, (P.to n g o).Q (n + 1) x → P.Q (n + 1) x ∨ x = g) := by
  have k := h.kept q
  have kc := k.chn
  have fm := h.fam
  have km := k.fam
  have fr := h.frees
  have pb : ∀ i, i < n → (P.to n g o).b i = P.b i := fun i hi => putI_other _ _ _ (by omega)
  have po : ∀ i, i < n → (P.to n g o).o i = P.o i := fun i hi => putI_other _ _ _ (by omega)
  have nb : (P.to n g o).b n = g := putI_same _ _ _
  have no : (P.to n g o).o n = o := putI_same _ _ _
  have pout : ∀ i, i ≤ n → (P.to n g o).out i = P.out i := fun i hi => by
    unfold Pl.out
    by_cases h0 : i = 0
    · rw [if_pos h0, if_pos h0]
    · rw [if_neg h0, if_neg h0, pb (i - 1) (by omega), po (i - 1) (by omega)]
  have inE : ∀ x, (P.to n g o).In (n + 1) x ↔ P.In (n + 1) x := fun x => Iff.rfl
  have gQ : ∀ x, P.Q (n + 1) x → x ≠ g := fun x hx => by have := fm.lt x hx; omega
  have qn : ∀ x, P.In (n + 1) x → (P.pos x).1 ≠ g := fun x hx => gQ _ (fm.q x hx)
  have nn : P.In (n + 1) (n, 0) := ⟨Nat.lt_succ_self n, Nat.zero_le _⟩
  refine ⟨?_, ?_, ?_, ?_⟩
  · exact {
      c1 := fun i hi => by
        by_cases hin : i < n
        · rw [pb i hin, po i hin]; exact kc.c1 i hi
        · obtain rfl : i = n := by omega
          rw [nb, no]; exact hc 1 (by omega)
      c2 := fun i hi => by
        by_cases hin : i < n
        · rw [pb i hin, po i hin]; exact kc.c2 i hi
        · obtain rfl : i = n := by omega
          rw [nb, no]; exact hc 2 (by omega)
      c3 := fun i hi => by
        rw [pout i (by omega)]
        by_cases hin : i < n
        · rw [pb i hin, po i hin]; exact kc.c3 i hi
        · obtain rfl : i = n := by omega
          rw [nb, no]; exact hc 3 (by omega)
      c4 := fun i hi => by
        by_cases hin : i < n
        · rw [pb i hin, po i hin]; exact kc.c4 i hi
        · obtain rfl : i = n := by omega
          rw [nb, no]; exact hc 4 (by omega)
      c5 := fun i hi => by
        by_cases hin : i < n
        · rw [pb i hin, po i hin]; exact kc.c5 i hi
        · obtain rfl : i = n := by omega
          rw [nb, no]; exact hc 5 (by omega)
      c6 := fun i hi => by
        by_cases hin : i < n
        · rw [pb i hin, po i hin]; exact kc.c6 i hi
        · obtain rfl : i = n := by omega
          rw [nb, no]; exact hc 6 (by omega)
      ca := kc.ca
      ml := kc.ml
      ce := kc.ce
      ne := kc.ne
      ni := kc.ni }
  · have c0 : w'.cell? ⟨g, o, none⟩ = some (v (n, 0)) := hc 0 (by omega)
    exact {
      c := fun x hx => by
        rw [Pl.to_pos]
        by_cases hxn : x = (n, 0)
        · subst hxn; rw [if_pos rfl]; exact c0
        · rw [if_neg hxn]; exact km.c x hx
      f := fun x hx => by
        rw [Pl.to_pos]
        by_cases hxn : x = (n, 0)
        · subst hxn; rw [if_pos rfl]; exact hf
        · rw [if_neg hxn]; exact km.f x hx
      fod := km.fod
      inj := fun x y hx hy hne => by
        rw [Pl.to_pos, Pl.to_pos]
        by_cases hxn : x = (n, 0)
        · rw [if_pos hxn, if_neg (fun e => hne (hxn.trans e.symm))]
          exact fun e => qn y hy (congrArg Prod.fst e).symm
        · rw [if_neg hxn]
          by_cases hyn : y = (n, 0)
          · rw [if_pos hyn]
            exact fun e => qn x hx (congrArg Prod.fst e)
          · rw [if_neg hyn]; exact km.inj x y hx hy hne
      dj := km.dj
      q := fun x hx => by
        rw [Pl.to_pos]
        by_cases hxn : x = (n, 0)
        · rw [if_pos hxn]; exact Or.inr rfl
        · rw [if_neg hxn]; exact Or.inl (km.q x hx)
      lt := fun x hx => by
        rcases hx with hx | rfl
        · exact km.lt x hx
        · exact World.block_lt_of_cell? w' _ c0
      bs := fun x hx => by
        rcases hx with hx | rfl
        · exact km.bs x hx
        · omega
      sep := fun x hx y hy hq => by
        rcases hq with hq | rfl
        · exact km.sep x hx y hy hq
        · have := (World.ownsRow.lt (h.fod x hx) y hy).2
          omega }
  · exact {
      lv := fun x hx i j hi h1 h6 => by
        rw [Pl.to_pos]
        by_cases hin : i < n
        · rw [pb i hin, po i hin]
          by_cases hxn : x = (n, 0)
          · rw [if_pos hxn]
            exact fun e => gQ (P.b i) ⟨i, hi, Or.inl rfl⟩ (congrArg Prod.fst e).symm
          · rw [if_neg hxn]; exact fr.lv x hx i j hi h1 h6
        · obtain rfl : i = n := by omega
          rw [nb, no]
          by_cases hxn : x = (i, 0)
          · rw [if_pos hxn]
            exact fun e => by have := congrArg Prod.snd e; dsimp only at this; omega
          · rw [if_neg hxn]
            exact fun e => qn x hx (congrArg Prod.fst e)
      cd := fun x hx i j hi hj => by
        rw [Pl.to_pos]
        by_cases hxn : x = (n, 0)
        · rw [if_pos hxn]
          exact fun e => gQ (P.cb i) ⟨i, hi, Or.inr (Or.inl ⟨Nat.lt_of_le_of_lt (Nat.zero_le _) hj, rfl⟩)⟩ (congrArg Prod.fst e).symm
        · rw [if_neg hxn]; exact fr.cd x hx i j hi hj
      ne := fun x hx i hi => by
        rw [Pl.to_pos]
        by_cases hxn : x = (n, 0)
        · rw [if_pos hxn]
          exact fun e => gQ (P.xe i) ⟨i, hi, Or.inr (Or.inr (Or.inl rfl))⟩ e.symm
        · rw [if_neg hxn]; exact fr.ne x hx i hi
      ni := fun x hx i j hi hj => by
        rw [Pl.to_pos]
        by_cases hxn : x = (n, 0)
        · rw [if_pos hxn]
          exact fun e => gQ (P.xi i j) ⟨i, hi, Or.inr (Or.inr (Or.inr ⟨j, hj, rfl⟩))⟩ e.symm
        · rw [if_neg hxn]; exact fr.ni x hx i j hi hj }
  · rintro x ⟨i, hi, hx⟩
    by_cases hin : i < n
    · rw [pb i hin] at hx
      exact Or.inl ⟨i, hi, hx⟩
    · obtain rfl : i = n := by omega
      rw [nb] at hx
      rcases hx with rfl | hx
      · exact Or.inr rfl
      · exact Or.inl ⟨i, hi, Or.inr hx⟩
end Go.Proofs.YtgdipdbmllkckaaGreatFmt
