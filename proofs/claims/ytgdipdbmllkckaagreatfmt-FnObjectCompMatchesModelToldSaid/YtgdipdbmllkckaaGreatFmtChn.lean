/- Chains of 'for' levels in memory. -/
import Derived.Test.YtgdipdbmllkckaaGreatFmtFamI
import Derived.Test.YtgdipdbmllkckaaGreatFmtE1
import Derived.Test.YtgdipdbmllkckaaGreatFmtRdS
namespace Go.Proofs.YtgdipdbmllkckaaGreatFmt
open Go.ChangeShapes Go.WideShapes Go.ChangeAt Go.RowKit

/-- Where the parts of a chain lie. -/
structure Pl where
  b : Nat → Nat
  o : Nat → Nat
  m : Nat → Nat
  ca : Nat → Option Addr
  cc : Nat → Nat
  cb : Nat → Nat
  xe : Nat → Nat
  xi : Nat → Nat → Nat

def Pl.out (P : Pl) (i : Nat) : Value := if i = 0 then .pointer none else .pointer (some ⟨P.b (i - 1), P.o (i - 1), none⟩)
def Pl.pos (P : Pl) (x : Nat × Nat) : Nat × Nat := if x.2 = 0 then (P.b x.1, P.o x.1) else (P.cb x.1, (x.2 - 1) * 2 + 1)
def Pl.In (P : Pl) (n : Nat) (x : Nat × Nat) : Prop := x.1 < n ∧ x.2 ≤ P.m x.1
def Pl.Q (P : Pl) (n : Nat) (g : Nat) : Prop := ∃ i, i < n ∧ (g = P.b i ∨ (0 < P.m i ∧ g = P.cb i) ∨ g = P.xe i ∨ ∃ j, j < P.m i ∧ g = P.xi i j)
def nulI (x : Nat) : Value := .iface 104 (.pointer (some ⟨x, 0, none⟩))
/-- A null literal without fodder. -/
def AtNull (w : World) (x : Nat) : Prop := w.cell? ⟨x, 0, none⟩ = some (.slice none 0 0) ∧ w.frozen? ⟨x, 0, none⟩ = false
theorem AtNull.lt {w : World} {x : Nat} (h : AtNull w x) : x < w.heap.size := World.block_lt_of_cell? w _ h.1
theorem AtNull.kept {S : List Nat} {w w' : World} {x : Nat} (h : AtNull w x) (q : Kept S w w') (hn : x ∉ S) : AtNull w' x := ⟨q.cell h.1 hn, (q.frozen (p := ⟨x, 0, none⟩) h.lt hn).trans h.2⟩
theorem AtNull.block {w w' : World} {x : Nat} (h : AtNull w x) (e : w'.heap[x]? = w.heap[x]?) : AtNull w' x := ⟨(World.cell?_of_block e).trans h.1, (World.frozen?_of_block e).trans h.2⟩

/-- The cells of a chain of n levels, but for its fodders. -/
structure Chn (w : World) (n : Nat) (P : Pl) : Prop where
  c1 : ∀ i, i < n → w.cell? ⟨P.b i, P.o i + 1, none⟩ = some (.slice none 0 0)
  c2 : ∀ i, i < n → w.cell? ⟨P.b i, P.o i + 2, none⟩ = some (.slice (P.ca i) (P.m i) (P.cc i))
  c3 : ∀ i, i < n → w.cell? ⟨P.b i, P.o i + 3, none⟩ = some (P.out i)
  c4 : ∀ i, i < n → w.cell? ⟨P.b i, P.o i + 4, none⟩ = some (nulI (P.xe i))
  c5 : ∀ i, i < n → w.cell? ⟨P.b i, P.o i + 5, none⟩ = some (.string ⟨#[120]⟩)
  c6 : ∀ i, i < n → w.cell? ⟨P.b i, P.o i + 6, none⟩ = some (.slice none 0 0)
  ca : ∀ i, i < n → 0 < P.m i → P.ca i = some ⟨P.cb i, 0, none⟩
  ml : ∀ i, i < n → P.m i ≤ P.cc i ∧ P.cc i ≤ maxLen ∧ P.m i ≤ 1048576
  ce : ∀ i j, i < n → j < P.m i → w.cell? ⟨P.cb i, j * 2, none⟩ = some (nulI (P.xi i j))
  ne : ∀ i, i < n → AtNull w (P.xe i)
  ni : ∀ i j, i < n → j < P.m i → AtNull w (P.xi i j)

/-- No fodder's cell is one of these. -/
structure Frees {ι : Type} (I : ι → Prop) (p : ι → Nat × Nat) (n : Nat) (P : Pl) : Prop where
  lv : ∀ x, I x → ∀ i k, i < n → 1 ≤ k → k ≤ 6 → p x ≠ (P.b i, P.o i + k)
  cd : ∀ x, I x → ∀ i j, i < n → j < P.m i → p x ≠ (P.cb i, j * 2)
  ne : ∀ x, I x → ∀ i, i < n → (p x).1 ≠ P.xe i
  ni : ∀ x, I x → ∀ i j, i < n → j < P.m i → (p x).1 ≠ P.xi i j

theorem Chn.same {ι : Type} {I : ι → Prop} {p : ι → Nat × Nat} {Q : Nat → Prop} {w w' : World} {n : Nat} {P : Pl} (h : Chn w n P) (s : SameI I p Q w w') (f : Frees I p n P) (hQ : ∀ g, P.Q n g → Q g) : Chn w' n P where
  c1 := fun i hi => (s.cell _ _ (hQ _ ⟨i, hi, Or.inl rfl⟩) (fun x hx => f.lv x hx i 1 hi (by omega) (by omega))).trans (h.c1 i hi)
  c2 := fun i hi => (s.cell _ _ (hQ _ ⟨i, hi, Or.inl rfl⟩) (fun x hx => f.lv x hx i 2 hi (by omega) (by omega))).trans (h.c2 i hi)
  c3 := fun i hi => (s.cell _ _ (hQ _ ⟨i, hi, Or.inl rfl⟩) (fun x hx => f.lv x hx i 3 hi (by omega) (by omega))).trans (h.c3 i hi)
  c4 := fun i hi => (s.cell _ _ (hQ _ ⟨i, hi, Or.inl rfl⟩) (fun x hx => f.lv x hx i 4 hi (by omega) (by omega))).trans (h.c4 i hi)
  c5 := fun i hi => (s.cell _ _ (hQ _ ⟨i, hi, Or.inl rfl⟩) (fun x hx => f.lv x hx i 5 hi (by omega) (by omega))).trans (h.c5 i hi)
  c6 := fun i hi => (s.cell _ _ (hQ _ ⟨i, hi, Or.inl rfl⟩) (fun x hx => f.lv x hx i 6 hi (by omega) (by omega))).trans (h.c6 i hi)
  ca := h.ca
  ml := h.ml
  ce := fun i j hi hj => (s.cell _ _ (hQ _ ⟨i, hi, Or.inr (Or.inl ⟨by omega, rfl⟩)⟩) (fun x hx => f.cd x hx i j hi hj)).trans (h.ce i j hi hj)
  ne := fun i hi => (h.ne i hi).block (s.blk _ (hQ _ ⟨i, hi, Or.inr (Or.inr (Or.inl rfl))⟩) (fun x hx => f.ne x hx i hi))
  ni := fun i j hi hj => (h.ni i j hi hj).block (s.blk _ (hQ _ ⟨i, hi, Or.inr (Or.inr (Or.inr ⟨j, hj, rfl⟩))⟩) (fun x hx => f.ni x hx i j hi hj))

theorem Chn.kept {w w' : World} {n : Nat} {P : Pl} (h : Chn w n P) (q : Kept [] w w') : Chn w' n P where
  c1 := fun i hi => q.cell (h.c1 i hi) (by simp)
  c2 := fun i hi => q.cell (h.c2 i hi) (by simp)
  c3 := fun i hi => q.cell (h.c3 i hi) (by simp)
  c4 := fun i hi => q.cell (h.c4 i hi) (by simp)
  c5 := fun i hi => q.cell (h.c5 i hi) (by simp)
  c6 := fun i hi => q.cell (h.c6 i hi) (by simp)
  ca := h.ca
  ml := h.ml
  ce := fun i j hi hj => q.cell (h.ce i j hi hj) (by simp)
  ne := fun i hi => (h.ne i hi).kept q (by simp)
  ni := fun i j hi hj => (h.ni i j hi hj).kept q (by simp)

theorem Chn.low {w : World} {n k : Nat} {P : Pl} (h : Chn w n P) (hk : k ≤ n) : Chn w k P where
  c1 := fun i hi => h.c1 i (by omega)
  c2 := fun i hi => h.c2 i (by omega)
  c3 := fun i hi => h.c3 i (by omega)
  c4 := fun i hi => h.c4 i (by omega)
  c5 := fun i hi => h.c5 i (by omega)
  c6 := fun i hi => h.c6 i (by omega)
  ca := fun i hi => h.ca i (by omega)
  ml := fun i hi => h.ml i (by omega)
  ce := fun i j hi hj => h.ce i j (by omega) hj
  ne := fun i hi => h.ne i (by omega)
  ni := fun i j hi hj => h.ni i j (by omega) hj

/-- The value of level i, when it is handed over whole. -/
def Pl.lvl (P : Pl) (v : Value) (i : Nat) : Value := .agg #[v, .slice none 0 0, .slice (P.ca i) (P.m i) (P.cc i), P.out i, nulI (P.xe i), .string ⟨#[120]⟩, .slice none 0 0]

/-- The fodders of a chain lie in its places. -/
structure ChF (w : World) (base n : Nat) (P : Pl) (v : Nat × Nat → Value) (l : Nat × Nat → List FE) : Prop where
  c : ∀ x, P.In n x → w.cell? ⟨(P.pos x).1, (P.pos x).2, none⟩ = some (v x)
  fod : ∀ x, P.In n x → Fod w base (v x) (l x)
  kd : ∀ x, P.In n x → Kinds (l x)
theorem ChF.kept {w w' : World} {base n : Nat} {P : Pl} {v : Nat × Nat → Value} {l : Nat × Nat → List FE} (h : ChF w base n P v l) (q : Kept [] w w') : ChF w' base n P v l :=
  ⟨fun x hx => q.cell (h.c x hx) (by simp), fun x hx => (h.fod x hx).kept q (by simp), h.kd⟩
theorem ChF.low {w : World} {base n k : Nat} {P : Pl} {v : Nat × Nat → Value} {l : Nat × Nat → List FE} (h : ChF w base n P v l) (hk : k ≤ n) : ChF w base k P v l :=
  ⟨fun x hx => h.c x ⟨by have := hx.1; omega, hx.2⟩, fun x hx => h.fod x ⟨by have := hx.1; omega, hx.2⟩, fun x hx => h.kd x ⟨by have := hx.1; omega, hx.2⟩⟩
theorem ChF.c0 {w : World} {base n : Nat} {P : Pl} {v : Nat × Nat → Value} {l : Nat × Nat → List FE} (h : ChF w base n P v l) (i : Nat) (hi : i < n) : w.cell? ⟨P.b i, P.o i, none⟩ = some (v (i, 0)) := h.c (i, 0) ⟨hi, Nat.zero_le _⟩
theorem ChF.cj {w : World} {base n : Nat} {P : Pl} {v : Nat × Nat → Value} {l : Nat × Nat → List FE} (h : ChF w base n P v l) (i j : Nat) (hi : i < n) (hj : j < P.m i) : w.cell? ⟨P.cb i, j * 2 + 1, none⟩ = some (v (i, j + 1)) := by
  have := h.c (i, j + 1) ⟨hi, hj⟩
  unfold Pl.pos at this
  rw [if_neg (by simp)] at this
  exact this

/-- Does a fodder of level i count a line break, among the 'for' fodder and the first k 'if' fodders? -/
def lvTo (l : Nat × Nat → List FE) (i k : Nat) : Bool := decide (0 < sumNL (l (i, 0))) || (List.range k).any fun j => decide (0 < sumNL (l (i, j + 1)))
theorem lvTo_succ (l : Nat × Nat → List FE) (i k : Nat) : lvTo l i (k + 1) = (lvTo l i k || decide (0 < sumNL (l (i, k + 1)))) := by
  unfold lvTo
  rw [List.range_succ, List.any_append]
  simp [Bool.or_assoc]
/-- Does a fodder of the first k levels? -/
def chTo (l : Nat × Nat → List FE) (m : Nat → Nat) (k : Nat) : Bool := (List.range k).any fun i => lvTo l i (m i)
theorem chTo_succ (l : Nat × Nat → List FE) (m : Nat → Nat) (k : Nat) : chTo l m (k + 1) = (chTo l m k || lvTo l k (m k)) := by
  unfold chTo
  rw [List.range_succ, List.any_append]
  simp
theorem lvTo_iff (l : Nat × Nat → List FE) (i k : Nat) : lvTo l i k = true ↔ ∃ j, j ≤ k ∧ 0 < sumNL (l (i, j)) := by
  unfold lvTo
  simp only [Bool.or_eq_true, decide_eq_true_eq, List.any_eq_true, List.mem_range]
  constructor
  · rintro (h | ⟨j, hj, h⟩)
    · exact ⟨0, Nat.zero_le _, h⟩
    · exact ⟨j + 1, by omega, h⟩
  · rintro ⟨j, hj, h⟩
    cases j with
    | zero => exact Or.inl h
    | succ j => exact Or.inr ⟨j, by omega, h⟩
theorem chTo_iff (l : Nat × Nat → List FE) (m : Nat → Nat) (k : Nat) : chTo l m k = true ↔ ∃ i j, i < k ∧ j ≤ m i ∧ 0 < sumNL (l (i, j)) := by
  unfold chTo
  simp only [List.any_eq_true, List.mem_range, lvTo_iff]
  constructor
  · rintro ⟨i, hi, j, hj, h⟩
    exact ⟨i, j, hi, hj, h⟩
  · rintro ⟨i, j, hi, hj, h⟩
    exact ⟨i, hi, j, hj, h⟩
end Go.Proofs.YtgdipdbmllkckaaGreatFmt
