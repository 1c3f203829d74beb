/- Chains that n008_142's zzBuildSpec lays: every block known by its kind. -/
import Derived.Test.YtgdipdbmllkckaaGreatFmtBs1
namespace Go.Proofs.YtgdipdbmllkckaaGreatFmt
open Go.ChangeShapes Go.WideShapes Go.ChangeAt Go.RowKit

structure Raw (w : World) (base n : Nat) (P : Pl) (v : Nat × Nat → Value) (l : Nat × Nat → List FE) : Prop where
  lb : ∀ i, i < n → w.heap[P.b i]? = some (.cells #[v (i, 0), .slice none 0 0, .slice (P.ca i) (P.m i) (P.cc i), P.out i, nulI (P.xe i), .string ⟨#[120]⟩, .slice none 0 0] 50 (0, 0))
  o : ∀ i, P.o i = 0
  ca : ∀ i, i < n → 0 < P.m i → P.ca i = some ⟨P.cb i, 0, none⟩
  ml : ∀ i, i < n → P.m i ≤ P.cc i ∧ P.cc i ≤ maxLen ∧ P.m i ≤ 1048576
  cbt : ∀ i, i < n → 0 < P.m i → ∃ cs, w.heap[P.cb i]? = some (.cells cs 103 (0, 0))
  ce : ∀ i j, i < n → j < P.m i → w.cell? ⟨P.cb i, j * 2, none⟩ = some (nulI (P.xi i j)) ∧ w.cell? ⟨P.cb i, j * 2 + 1, none⟩ = some (v (i, j + 1))
  xe : ∀ i, i < n → NulT w (P.xe i)
  xi : ∀ i j, i < n → j < P.m i → NulT w (P.xi i j)
  fod : ∀ x, P.In n x → Fod w base (v x) (l x)
  bi : ∀ i j, i < j → j < n → P.b i < P.b j
  cbi : ∀ i j, i < j → j < n → 0 < P.m i → 0 < P.m j → P.cb i < P.cb j
  dj : ∀ x y, P.In n x → P.In n y → x ≠ y → ∀ g, (v x).ownBlock = some g → (v y).ownBlock ≠ some g
  bs : ∀ g, P.Q n g → base ≤ g

theorem Raw.zero (w : World) (base : Nat) (P : Pl) (v : Nat × Nat → Value) (l : Nat × Nat → List FE) (h : ∀ i, P.o i = 0) : Raw w base 0 P v l :=
  ⟨fun i hi => by omega, h, fun i hi => by omega, fun i hi => by omega, fun i hi => by omega, fun i j hi => by omega, fun i hi => by omega, fun i j hi => by omega, fun x hx => by have := hx.1; omega,
    fun i j _ hj => by omega, fun i j _ hj => by omega, fun x y hx => by have := hx.1; omega, fun g ⟨i, hi, _⟩ => by omega⟩

theorem Raw.keptS {S : List Nat} {w w' : World} {base n : Nat} {P : Pl} {v : Nat × Nat → Value} {l : Nat × Nat → List FE} (h : Raw w base n P v l) (q : Kept S w w') (hS : ∀ g ∈ S, g < base) : Raw w' base n P v l := by
  have nb : ∀ g, P.Q n g → g ∉ S := fun g hg hm => by have := h.bs g hg; have := hS g hm; omega
  exact {
    lb := fun i hi => q.heap (h.lb i hi) (nb _ ⟨i, hi, Or.inl rfl⟩)
    o := h.o
    ca := h.ca
    ml := h.ml
    cbt := fun i hi hm => by obtain ⟨cs, hc⟩ := h.cbt i hi hm; exact ⟨cs, q.heap hc (nb _ ⟨i, hi, Or.inr (Or.inl ⟨hm, rfl⟩)⟩)⟩
    ce := fun i j hi hj => ⟨q.cell (h.ce i j hi hj).1 (nb _ ⟨i, hi, Or.inr (Or.inl ⟨by omega, rfl⟩)⟩), q.cell (h.ce i j hi hj).2 (nb _ ⟨i, hi, Or.inr (Or.inl ⟨by omega, rfl⟩)⟩)⟩
    xe := fun i hi => q.heap (h.xe i hi) (nb _ ⟨i, hi, Or.inr (Or.inr (Or.inl rfl))⟩)
    xi := fun i j hi hj => q.heap (h.xi i j hi hj) (nb _ ⟨i, hi, Or.inr (Or.inr (Or.inr ⟨j, hj, rfl⟩))⟩)
    fod := fun x hx => (h.fod x hx).kept q (fun g hg hm => by have := (World.ownsRow.lt (h.fod x hx) g hg).1; have := hS g hm; omega)
    bi := h.bi
    cbi := h.cbi
    dj := h.dj
    bs := h.bs }
theorem Raw.kept {w w' : World} {base n : Nat} {P : Pl} {v : Nat × Nat → Value} {l : Nat × Nat → List FE} (h : Raw w base n P v l) (q : Kept [] w w') : Raw w' base n P v l := h.keptS q (by simp)
theorem Raw.low {w : World} {base base' n : Nat} {P : Pl} {v : Nat × Nat → Value} {l : Nat × Nat → List FE} (h : Raw w base n P v l) (hb : base' ≤ base) : Raw w base' n P v l :=
  { h with fod := fun x hx => (h.fod x hx).low hb, bs := fun g hg => Nat.le_trans hb (h.bs g hg) }

theorem Raw.chn {w : World} {base n : Nat} {P : Pl} {v : Nat × Nat → Value} {l : Nat × Nat → List FE} (h : Raw w base n P v l) : Chn w n P where
  c1 := fun i hi => by rw [h.o i]; exact cell_of_block (h.lb i hi) 1
  c2 := fun i hi => by rw [h.o i]; exact cell_of_block (h.lb i hi) 2
  c3 := fun i hi => by rw [h.o i]; exact cell_of_block (h.lb i hi) 3
  c4 := fun i hi => by rw [h.o i]; exact cell_of_block (h.lb i hi) 4
  c5 := fun i hi => by rw [h.o i]; exact cell_of_block (h.lb i hi) 5
  c6 := fun i hi => by rw [h.o i]; exact cell_of_block (h.lb i hi) 6
  ca := h.ca
  ml := h.ml
  ce := fun i j hi hj => (h.ce i j hi hj).1
  ne := fun i hi => (h.xe i hi).at
  ni := fun i j hi hj => (h.xi i j hi hj).at

theorem blk_ne {w : World} {a b : Nat} {cs ds : Array Value} {t u : TypeId} (h : w.heap[a]? = some (.cells cs t (0, 0))) (k : w.heap[b]? = some (.cells ds u (0, 0))) (e : t ≠ u) : a ≠ b := by
  intro hab
  subst hab
  rw [h] at k
  simp at k
  exact e k.2

theorem Pl.pos0 (P : Pl) (i : Nat) : P.pos (i, 0) = (P.b i, P.o i) := by unfold Pl.pos; rw [if_pos rfl]
theorem Pl.posj (P : Pl) (i j : Nat) : P.pos (i, j + 1) = (P.cb i, j * 2 + 1) := by unfold Pl.pos; rw [if_neg (by simp)]; rfl

theorem Raw.fam {w : World} {base n : Nat} {P : Pl} {v : Nat × Nat → Value} {l : Nat × Nat → List FE} (h : Raw w base n P v l) : FamI w base (P.In n) P.pos (P.Q n) v l where
  c := fun x hx => by
    obtain ⟨i, j⟩ := x
    cases j with
    | zero => rw [P.pos0, h.o]; exact cell_of_block (h.lb i hx.1) 0
    | succ j => rw [P.posj]; exact (h.ce i j hx.1 hx.2).2
  f := fun x hx => by
    obtain ⟨i, j⟩ := x
    cases j with
    | zero => rw [P.pos0]; exact frozen_of_block (h.lb i hx.1) _
    | succ j =>
      have hj : j < P.m i := hx.2
      rw [P.posj]
      obtain ⟨cs, hc⟩ := h.cbt i hx.1 (by omega)
      exact frozen_of_block hc _
  fod := h.fod
  inj := fun x y hx hy hne e => by
    obtain ⟨i, j⟩ := x
    obtain ⟨i', j'⟩ := y
    cases j with
    | zero =>
      cases j' with
      | zero =>
        rw [P.pos0, P.pos0] at e
        have e1 := congrArg Prod.fst e
        dsimp only at e1
        rcases Nat.lt_trichotomy i i' with h1 | h1 | h1
        · have := h.bi i i' h1 hy.1; omega
        · subst h1; exact hne rfl
        · have := h.bi i' i h1 hx.1; omega
      | succ j' =>
        rw [P.pos0, P.posj, h.o] at e
        have e2 := congrArg Prod.snd e
        dsimp only at e2
        omega
    | succ j =>
      cases j' with
      | zero =>
        rw [P.pos0, P.posj, h.o] at e
        have e2 := congrArg Prod.snd e
        dsimp only at e2
        omega
      | succ j' =>
        rw [P.posj, P.posj] at e
        have e1 := congrArg Prod.fst e
        have e2 := congrArg Prod.snd e
        dsimp only at e1 e2
        have hj : j < P.m i := hx.2
        have hj' : j' < P.m i' := hy.2
        rcases Nat.lt_trichotomy i i' with h1 | h1 | h1
        · have := h.cbi i i' h1 hy.1 (by omega) (by omega); omega
        · subst h1; exact hne (by rw [show j = j' by omega])
        · have := h.cbi i' i h1 hx.1 (by omega) (by omega); omega
  dj := h.dj
  q := fun x hx => by
    obtain ⟨i, j⟩ := x
    cases j with
    | zero => rw [P.pos0]; exact ⟨i, hx.1, Or.inl rfl⟩
    | succ j =>
      have hj : j < P.m i := hx.2
      rw [P.posj]; exact ⟨i, hx.1, Or.inr (Or.inl ⟨by omega, rfl⟩)⟩
  lt := fun g ⟨i, hi, hg⟩ => by
    rcases hg with rfl | ⟨hm, rfl⟩ | rfl | ⟨j, hj, rfl⟩
    · exact (Array.getElem?_eq_some_iff.1 (h.lb i hi)).1
    · obtain ⟨cs, hc⟩ := h.cbt i hi hm
      exact (Array.getElem?_eq_some_iff.1 hc).1
    · exact (h.xe i hi).lt
    · exact (h.xi i j hi hj).lt
  bs := h.bs
  sep := fun x hx g hg ⟨i, hi, hq⟩ => by
    obtain ⟨cs, hc⟩ := (h.fod x hx).own.typ g (by simp [hg])
    rcases hq with rfl | ⟨hm, rfl⟩ | rfl | ⟨j, hj, rfl⟩
    · exact blk_ne hc (h.lb i hi) (by decide) rfl
    · obtain ⟨cs2, hc2⟩ := h.cbt i hi hm
      exact blk_ne hc hc2 (by decide) rfl
    · exact blk_ne hc (h.xe i hi) (by decide) rfl
    · exact blk_ne hc (h.xi i j hi hj) (by decide) rfl

theorem Raw.frees {w : World} {base n : Nat} {P : Pl} {v : Nat × Nat → Value} {l : Nat × Nat → List FE} (h : Raw w base n P v l) : Frees (P.In n) P.pos n P where
  lv := fun x hx i k hi h1 h6 e => by
    obtain ⟨i', j⟩ := x
    cases j with
    | zero =>
      rw [P.pos0, h.o, h.o] at e
      have e2 := congrArg Prod.snd e
      dsimp only at e2
      omega
    | succ j =>
      have hj : j < P.m i' := hx.2
      rw [P.posj] at e
      have e1 := congrArg Prod.fst e
      dsimp only at e1
      obtain ⟨cs, hc⟩ := h.cbt i' hx.1 (by omega)
      exact blk_ne hc (h.lb i hi) (by decide) e1
  cd := fun x hx i j hi hj e => by
    obtain ⟨i', j'⟩ := x
    cases j' with
    | zero =>
      rw [P.pos0] at e
      have e1 := congrArg Prod.fst e
      dsimp only at e1
      obtain ⟨cs, hc⟩ := h.cbt i hi (by omega)
      exact blk_ne (h.lb i' hx.1) hc (by decide) e1
    | succ j' =>
      rw [P.posj] at e
      have e2 := congrArg Prod.snd e
      dsimp only at e2
      omega
  ne := fun x hx i hi e => by
    obtain ⟨i', j'⟩ := x
    cases j' with
    | zero => rw [P.pos0] at e; exact blk_ne (h.lb i' hx.1) (h.xe i hi) (by decide) e
    | succ j' =>
      have hj : j' < P.m i' := hx.2
      rw [P.posj] at e
      obtain ⟨cs, hc⟩ := h.cbt i' hx.1 (by omega)
      exact blk_ne hc (h.xe i hi) (by decide) e
  ni := fun x hx i j hi hj e => by
    obtain ⟨i', j'⟩ := x
    cases j' with
    | zero => rw [P.pos0] at e; exact blk_ne (h.lb i' hx.1) (h.xi i j hi hj) (by decide) e
    | succ j' =>
      have hj' : j' < P.m i' := hx.2
      rw [P.posj] at e
      obtain ⟨cs, hc⟩ := h.cbt i' hx.1 (by omega)
      exact blk_ne hc (h.xi i j hi hj) (by decide) e

/-- One level more. -/
def Pl.add (P : Pl) (n b : Nat) (ca : Option Addr) (cc cb x : Nat) (ys : List CY) : Pl :=
  ⟨putI P.b n b, fun _ => 0, putI P.m n ys.length, putI P.ca n ca, putI P.cc n cc, putI P.cb n cb, putI P.xe n x, putI P.xi n (fun j => (ys.getD j default).1)⟩
def addV (v : Nat × Nat → Value) (n : Nat) (u : Value) (ys : List CY) : Nat × Nat → Value := fun y => if y.1 = n then (if y.2 = 0 then u else (ys.getD (y.2 - 1) default).2.1.val) else v y
def addL (l : Nat × Nat → List FE) (n : Nat) (u : List FE) (ys : List CY) : Nat × Nat → List FE := fun y => if y.1 = n then (if y.2 = 0 then u else (ys.getD (y.2 - 1) default).2.2) else l y

theorem Raw.add {w w3 : World} {base n C D b x : Nat} {P : Pl} {v : Nat × Nat → Value} {l : Nat × Nat → List FE} {ca : Option Addr} {m cc : Nat} {ys : List CY} {dd : List (List ZE)} {u : Value} {lu : List FE}
    (h : Raw w base n P v l) (q : Kept [] w w3) (hb0 : base ≤ w.heap.size) (hC : Cnd w3 C (.slice ca m cc) ys dd) (hCw : w.heap.size ≤ C) (hf : Fod w3 D u lu) (hD : w.heap.size ≤ D)
    (hdj : ∀ (j : Nat) y, ys[j]? = some y → ∀ g, y.2.1.val.ownBlock = some g → u.ownBlock ≠ some g)
    (hb : w3.heap[b]? = some (.cells #[u, .slice none 0 0, .slice ca m cc, P.out n, nulI x, .string ⟨#[120]⟩, .slice none 0 0] 50 (0, 0))) (hbw : w.heap.size ≤ b)
    (hx : NulT w3 x) (hxw : w.heap.size ≤ x) (hm : m ≤ 1048576) : ∃ cb, Raw w3 base (n + 1) (P.add n b ca cc cb x ys) (addV v n u ys) (addL l n lu ys) := by
  have k := h.kept q
  obtain ⟨a', cap', hv, hle, htop, hat⟩ := hC.own.slice
  injection hv with e1 e2 e3
  subst e1 e2 e3
  obtain ⟨cb, hcb⟩ : ∃ cb, 0 < ys.length → ca = some ⟨cb, 0, none⟩ ∧ w.heap.size ≤ cb := by
    by_cases h0 : 0 < ys.length
    · obtain ⟨g, e, hg, _⟩ := hat 0 h0
      exact ⟨g, fun _ => ⟨e, Nat.le_trans hCw hg⟩⟩
    · exact ⟨0, fun h => absurd h h0⟩
  refine ⟨cb, ?_⟩
  obtain ⟨P', hP⟩ : ∃ P', P.add n b ca cc cb x ys = P' := ⟨_, rfl⟩
  obtain ⟨v', hv'⟩ : ∃ v', addV v n u ys = v' := ⟨_, rfl⟩
  obtain ⟨l', hl'⟩ : ∃ l', addL l n lu ys = l' := ⟨_, rfl⟩
  have pb : ∀ i, i < n → P'.b i = P.b i := fun i hi => by subst hP; exact putI_other _ _ _ (by omega)
  have pm : ∀ i, i < n → P'.m i = P.m i := fun i hi => by subst hP; exact putI_other _ _ _ (by omega)
  have pca : ∀ i, i < n → P'.ca i = P.ca i := fun i hi => by subst hP; exact putI_other _ _ _ (by omega)
  have pcc : ∀ i, i < n → P'.cc i = P.cc i := fun i hi => by subst hP; exact putI_other _ _ _ (by omega)
  have pcb : ∀ i, i < n → P'.cb i = P.cb i := fun i hi => by subst hP; exact putI_other _ _ _ (by omega)
  have pxe : ∀ i, i < n → P'.xe i = P.xe i := fun i hi => by subst hP; exact putI_other _ _ _ (by omega)
  have pxi : ∀ i, i < n → P'.xi i = P.xi i := fun i hi => by subst hP; exact putI_other _ _ _ (by omega)
  have po : ∀ i, P'.o i = 0 := fun i => by subst hP; rfl
  have nb : P'.b n = b := by subst hP; exact putI_same _ _ _
  have nm : P'.m n = ys.length := by subst hP; exact putI_same _ _ _
  have nca : P'.ca n = ca := by subst hP; exact putI_same _ _ _
  have ncc : P'.cc n = cc := by subst hP; exact putI_same _ _ _
  have ncb : P'.cb n = cb := by subst hP; exact putI_same _ _ _
  have nxe : P'.xe n = x := by subst hP; exact putI_same _ _ _
  have nxi : P'.xi n = fun j => (ys.getD j default).1 := by subst hP; exact putI_same _ _ _
  have vo : ∀ i j, i < n → v' (i, j) = v (i, j) := fun i j hi => by subst hv'; unfold addV; rw [if_neg (by dsimp only; omega)]
  have v0 : v' (n, 0) = u := by subst hv'; unfold addV; rw [if_pos rfl, if_pos rfl]
  have vj : ∀ j, v' (n, j + 1) = (ys.getD j default).2.1.val := fun j => by subst hv'; unfold addV; rw [if_pos rfl, if_neg (by simp)]; rfl
  have lo : ∀ i j, i < n → l' (i, j) = l (i, j) := fun i j hi => by subst hl'; unfold addL; rw [if_neg (by dsimp only; omega)]
  have l0 : l' (n, 0) = lu := by subst hl'; unfold addL; rw [if_pos rfl, if_pos rfl]
  have lj : ∀ j, l' (n, j + 1) = (ys.getD j default).2.2 := fun j => by subst hl'; unfold addL; rw [if_pos rfl, if_neg (by simp)]; rfl
  have pout : ∀ i, i ≤ n → P'.out i = P.out i := fun i hi => by
    unfold Pl.out
    by_cases h0 : i = 0
    · rw [if_pos h0, if_pos h0]
    · rw [if_neg h0, if_neg h0, pb (i - 1) (by omega), po, h.o]
  rw [hP, hv', hl']
  have gy : ∀ j, j < ys.length → ys[j]? = some (ys.getD j default) := fun j hj => by
    rw [List.getD_eq_getElem?_getD, List.getElem?_eq_getElem hj]; rfl
  -- an index of the new family is an old one, or one of the new level
  have cas : ∀ y, P'.In (n + 1) y → (y.1 < n ∧ P.In n y) ∨ (y = (n, 0)) ∨ ∃ j, j < ys.length ∧ y = (n, j + 1) := by
    intro y hy
    obtain ⟨i, j⟩ := y
    obtain ⟨h1, h2⟩ := hy
    dsimp only at h1 h2
    by_cases hi : i < n
    · refine Or.inl ⟨hi, hi, ?_⟩
      rw [pm i hi] at h2
      exact h2
    · obtain rfl : i = n := by omega
      cases j with
      | zero => exact Or.inr (Or.inl rfl)
      | succ j => exact Or.inr (Or.inr ⟨j, by rw [nm] at h2; omega, rfl⟩)
  have oldlt : ∀ y, P.In n y → ∀ g, (v y).ownBlock = some g → g < w.heap.size := fun y hy g hg => (World.ownsRow.lt (h.fod y hy) g hg).2
  have newge : ∀ y, (y = (n, 0)) ∨ (∃ j, j < ys.length ∧ y = (n, j + 1)) → ∀ g, (v' y).ownBlock = some g → w.heap.size ≤ g := by
    intro y hy g hg
    rcases hy with rfl | ⟨j, hj, rfl⟩
    · rw [v0] at hg
      exact Nat.le_trans hD (World.ownsRow.lt hf g hg).1
    · rw [vj] at hg
      exact Nat.le_trans hCw (World.ownsRow.lt (hC.fod j _ (gy j hj)) g hg).1
  have blt : ∀ i, i < n → P.b i < w.heap.size := fun i hi => (Array.getElem?_eq_some_iff.1 (h.lb i hi)).1
  have clt : ∀ i, i < n → 0 < P.m i → P.cb i < w.heap.size := fun i hi hmi => by
    obtain ⟨cs, hc⟩ := h.cbt i hi hmi
    exact (Array.getElem?_eq_some_iff.1 hc).1
  exact {
    lb := fun i hi => by
      by_cases hin : i < n
      · rw [pb i hin, vo i 0 hin, pca i hin, pm i hin, pcc i hin, pout i (by omega), pxe i hin]
        exact k.lb i hin
      · obtain rfl : i = n := by omega
        rw [nb, v0, nca, nm, ncc, pout i (by omega), nxe]
        exact hb
    o := po
    ca := fun i hi hmi => by
      by_cases hin : i < n
      · rw [pca i hin, pcb i hin]
        exact h.ca i hin (by rw [← pm i hin]; exact hmi)
      · obtain rfl : i = n := by omega
        rw [nca, ncb]
        exact (hcb (by rw [← nm]; exact hmi)).1
    ml := fun i hi => by
      by_cases hin : i < n
      · rw [pm i hin, pcc i hin]
        exact h.ml i hin
      · obtain rfl : i = n := by omega
        rw [nm, ncc]
        exact ⟨hle, htop, hm⟩
    cbt := fun i hi hmi => by
      by_cases hin : i < n
      · rw [pcb i hin]
        exact k.cbt i hin (by rw [← pm i hin]; exact hmi)
      · obtain rfl : i = n := by omega
        rw [ncb]
        obtain ⟨e, _⟩ := hcb (by rw [← nm]; exact hmi)
        subst e
        exact hC.own.typ cb (by simp [Value.ownBlock])
    ce := fun i j hi hj => by
      by_cases hin : i < n
      · rw [pcb i hin, pxi i hin, vo i (j + 1) hin]
        exact k.ce i j hin (by rw [← pm i hin]; exact hj)
      · obtain rfl : i = n := by omega
        rw [nm] at hj
        rw [ncb, nxi, vj]
        obtain ⟨e, _⟩ := hcb (by omega)
        subst e
        have g0 := gy j hj
        rw [List.getElem?_eq_getElem hj] at g0
        have g1 : ys[j] = ys.getD j default := by simpa using g0
        have c0 := hC.own.cell encC_len j hj 0 (by omega)
        have c1 := hC.own.cell encC_len j hj 1 (by omega)
        rw [g1] at c0 c1
        exact ⟨c0, c1⟩
    xe := fun i hi => by
      by_cases hin : i < n
      · rw [pxe i hin]; exact k.xe i hin
      · obtain rfl : i = n := by omega
        rw [nxe]; exact hx
    xi := fun i j hi hj => by
      by_cases hin : i < n
      · rw [pxi i hin]; exact k.xi i j hin (by rw [← pm i hin]; exact hj)
      · obtain rfl : i = n := by omega
        rw [nm] at hj
        rw [nxi]
        exact (hC.nul j _ (gy j hj)).1
    fod := fun y hy => by
      rcases cas y hy with ⟨hi, hin⟩ | rfl | ⟨j, hj, rfl⟩
      · obtain ⟨i, j⟩ := y
        rw [vo i j hi, lo i j hi]
        exact k.fod _ hin
      · rw [v0, l0]
        exact hf.low (by omega)
      · rw [vj, lj]
        exact (hC.fod j _ (gy j hj)).low (by omega)
    bi := fun i j hij hj => by
      by_cases hjn : j < n
      · rw [pb i (by omega), pb j hjn]; exact h.bi i j hij hjn
      · obtain rfl : j = n := by omega
        rw [pb i hij, nb]
        have := blt i hij
        omega
    cbi := fun i j hij hj hmi hmj => by
      rw [pm i (by omega)] at hmi
      by_cases hjn : j < n
      · rw [pm j hjn] at hmj
        rw [pcb i (by omega), pcb j hjn]; exact h.cbi i j hij hjn hmi hmj
      · obtain rfl : j = n := by omega
        rw [nm] at hmj
        rw [pcb i hij, ncb]
        have := clt i hij hmi
        have := (hcb hmj).2
        omega
    dj := fun y z hy hz hne g hg => by
      have key : ∀ y z, ((y.1 < n ∧ P.In n y) ∧ (z = (n, 0) ∨ ∃ j, j < ys.length ∧ z = (n, j + 1))) → ∀ g, (v' y).ownBlock = some g → (v' z).ownBlock = some g → False := by
        intro y z ⟨⟨hy1, hy2⟩, hz⟩ g hg hg2
        obtain ⟨i, j⟩ := y
        rw [vo i j hy1] at hg
        have := oldlt _ hy2 g hg
        have := newge z hz g hg2
        omega
      intro e
      rcases cas y hy with ⟨hi, hin⟩ | hyn
      · rcases cas z hz with ⟨hi2, hin2⟩ | hzn
        · obtain ⟨i, j⟩ := y
          obtain ⟨i2, j2⟩ := z
          rw [vo i j hi] at hg
          rw [vo i2 j2 hi2] at e
          exact h.dj _ _ hin hin2 hne g hg e
        · exact key y z ⟨⟨hi, hin⟩, hzn⟩ g hg e
      · rcases cas z hz with ⟨hi2, hin2⟩ | hzn
        · exact key z y ⟨⟨hi2, hin2⟩, hyn⟩ g e hg
        · rcases hyn with rfl | ⟨j, hj, rfl⟩
          · rcases hzn with rfl | ⟨j2, hj2, rfl⟩
            · exact hne rfl
            · rw [v0] at hg
              rw [vj] at e
              exact hdj j2 _ (gy j2 hj2) g e hg
          · rcases hzn with rfl | ⟨j2, hj2, rfl⟩
            · rw [vj] at hg
              rw [v0] at e
              exact hdj j _ (gy j hj) g hg e
            · rw [vj] at hg e
              exact hC.dj j j2 _ _ (gy j hj) (gy j2 hj2) (fun h => hne (by rw [h])) g hg e
    bs := fun g ⟨i, hi, hg⟩ => by
      by_cases hin : i < n
      · refine h.bs g ⟨i, hin, ?_⟩
        rw [pb i hin, pm i hin, pcb i hin, pxe i hin, pxi i hin] at hg
        exact hg
      · obtain rfl : i = n := by omega
        rw [nb, nm, ncb, nxe, nxi] at hg
        rcases hg with rfl | ⟨hmi, rfl⟩ | rfl | ⟨j, hj, rfl⟩
        · omega
        · have := (hcb hmi).2; omega
        · omega
        · have := (hC.nul j _ (gy j hj)).2; dsimp only; omega }

/-- The chain reads as these levels. -/
def Sn (P : Pl) (l : Nat × Nat → List FE) (n : Nat) (ss : List SE) : Prop :=
  ∀ i s, i < n → ss[i]? = some s → P.m i = s.ifs.length ∧ codes (l (i, 0)) = s.f ∧ ∀ (j : Nat) d, s.ifs[j]? = some d → codes (l (i, j + 1)) = d
theorem Sn.add {P : Pl} {l : Nat × Nat → List FE} {n : Nat} {ss : List SE} (h : Sn P l n ss) {s : SE} (hs : ss[n]? = some s) {b cc cb x : Nat} {ca : Option Addr} {ys : List CY} {lu : List FE} (h0 : codes lu = s.f) (hy : ys.map (fun y => codes y.2.2) = s.ifs) :
    Sn (P.add n b ca cc cb x ys) (addL l n lu ys) (n + 1) ss := by
  intro i s' hi hs'
  by_cases hin : i < n
  · obtain ⟨a, b', c⟩ := h i s' hin hs'
    have lo : ∀ j, addL l n lu ys (i, j) = l (i, j) := fun j => by unfold addL; rw [if_neg (by dsimp only; omega)]
    refine ⟨(putI_other _ _ _ (by omega)).trans a, by rw [lo]; exact b', fun j d hd => by rw [lo]; exact c j d hd⟩
  · obtain rfl : i = n := by omega
    rw [hs] at hs'
    obtain rfl : s = s' := by simpa using hs'
    refine ⟨(putI_same _ _ _).trans (by rw [← hy, List.length_map]), ?_, fun j d hd => ?_⟩
    · unfold addL; rw [if_pos rfl, if_pos rfl]; exact h0
    · unfold addL
      rw [if_pos rfl, if_neg (by simp)]
      rw [← hy, List.getElem?_map] at hd
      have hj : j < ys.length := by
        by_cases hj : j < ys.length
        · exact hj
        · rw [List.getElem?_eq_none (by omega)] at hd; cases hd
      rw [List.getElem?_eq_getElem hj] at hd
      simp only [Nat.add_sub_cancel, List.getD_eq_getElem?_getD, List.getElem?_eq_getElem hj]
      simpa using hd
end Go.Proofs.YtgdipdbmllkckaaGreatFmt
