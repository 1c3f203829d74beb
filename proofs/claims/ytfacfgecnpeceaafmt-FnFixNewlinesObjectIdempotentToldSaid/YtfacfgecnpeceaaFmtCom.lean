/- Words for fodders in memory: what a slice of fodder elements holds, how its cells are read and written, what a call may change. -/
import Derived.Test.YtfacfgecnpeceaaFmtRows
import Derived.WalkKit
import Derived.ProofKit
import Derived.OpenShut
import Derived.Below
import Derived.OwnWalk
import Derived.LoopTactic
import Derived.Lib.Hide
import Derived.Outline
import Derived.RegionTactic
import Derived.ChangeAlike
import Derived.Deep.QuietTactic
import Derived.BigQuiet
namespace Go.Proofs.YtfacfgecnpeceaaFmt
open Go.ChangeShapes Go.WideShapes Go.ChangeAt Go.RowKit

/-- What the walk is told of a slice of integers that came in. -/
def IsRow (k : IntKind) (w : World) (a : Option Addr) (len cap : Nat) (zs : List Int) : Prop :=
  (a = none ∧ len = 0 ∧ cap = 0 ∧ zs = []) ∨
  ∃ x, a = some x ∧ len ≤ cap ∧ cap ≤ maxLen ∧ zs.length = cap ∧ (∀ i, i < zs.length → w.cell? (x.add i) = some (.int k (zs.getD i 0))) ∧ ∀ n ∈ zs, (Lit.int k n).wf = true

theorem addr_add (x : Addr) (h : x.spot = none) (j : Nat) : x.add j = ⟨x.block, x.off + j, none⟩ := by
  obtain ⟨b, o, s⟩ := x; simp at h; subst h; unfold Addr.add; split <;> simp_all
theorem add_off (g o j : Nat) : (⟨g, o, none⟩ : Addr).add j = ⟨g, o + j, none⟩ := by unfold Addr.add; split <;> simp_all

theorem spot_of_cell {w : World} {x : Addr} {v : Value} (h : w.cell? x = some v) : x.spot = none := by
  unfold World.cell? at h
  split at h
  · split at h
    · cases h
    · rename_i hs; simpa using hs
  · cases h

/-- The cells of such a slice, at the block and offset where it begins. -/
theorem IsRow.open {k : IntKind} {w : World} {a : Option Addr} {len cap : Nat} {zs : List Int} (h : IsRow k w a len cap zs) :
    len ≤ cap ∧ cap ≤ maxLen ∧ zs.length = cap ∧ (∀ n ∈ zs, (Lit.int k n).wf = true) ∧
    ∀ i, i < len → ∃ b o, a = some ⟨b, o, none⟩ ∧ b < w.heap.size ∧ ∀ j, j < cap → w.cell? ⟨b, o + j, none⟩ = some (.int k (zs.getD j 0)) := by
  rcases h with ⟨rfl, rfl, rfl, rfl⟩ | ⟨x, rfl, h1, h2, h3, h4, h5⟩
  · exact ⟨Nat.le_refl _, Nat.zero_le _, rfl, by simp, fun i hi => by omega⟩
  · refine ⟨h1, h2, h3, h5, fun i hi => ?_⟩
    have h0 := h4 0 (by omega)
    have hs : x.spot = none := by
      have : x.add 0 = x := by unfold Addr.add; simp
      rw [this] at h0
      exact spot_of_cell h0
    obtain ⟨b, o, s⟩ := x
    simp at hs
    subst hs
    refine ⟨b, o, rfl, ?_, fun j hj => ?_⟩
    · have := World.block_lt_of_cell? w _ h0
      simpa [Addr.add] using this
    · have := h4 j (by omega)
      rwa [add_off] at this

theorem IsRow.pre {k : IntKind} {w : World} {a : Option Addr} {len cap : Nat} {zs : List Int} (h : IsRow k w a len cap zs) (m : Nat) (hm : m ≤ len) : IsRow k w a m cap zs := by
  rcases h with ⟨h1, rfl, h3, h4⟩ | ⟨x, h1, h2, h3⟩
  · exact Or.inl ⟨h1, by omega, h3, h4⟩
  · exact Or.inr ⟨x, h1, by omega, h3⟩

/-! ## What a call may change -/

/-- From w to w' no block has gone, the streams are as they were, and of the blocks of w only those in S may have changed. -/
structure Kept (S : List Nat) (w w' : World) : Prop where
  os : w'.os = w.os
  tape : w'.tape = w.tape
  output : w'.output = w.output
  size : w.heap.size ≤ w'.heap.size
  block : ∀ k, k < w.heap.size → k ∉ S → w'.heap[k]? = w.heap[k]?

theorem Kept.refl (S : List Nat) (w : World) : Kept S w w := ⟨rfl, rfl, rfl, Nat.le_refl _, fun _ _ _ => rfl⟩
theorem Kept.trans {S : List Nat} {a b c : World} (h : Kept S a b) (k : Kept S b c) : Kept S a c :=
  ⟨k.os.trans h.os, k.tape.trans h.tape, k.output.trans h.output, Nat.le_trans h.size k.size, fun i hi hn => (k.block i (Nat.lt_of_lt_of_le hi h.size) hn).trans (h.block i hi hn)⟩
/-- Blocks that w has not yet need not be named. -/
theorem Kept.mono {S T : List Nat} {w w' : World} (h : Kept S w w') (hs : ∀ k ∈ S, k ∈ T ∨ w.heap.size ≤ k) : Kept T w w' :=
  ⟨h.os, h.tape, h.output, h.size, fun k hk hn => h.block k hk (fun hm => by rcases hs k hm with h1 | h1; exact hn h1; omega)⟩
theorem Kept.then {S T : List Nat} {a b c : World} (h : Kept S a b) (k : Kept T b c) (hs : ∀ x ∈ T, x ∈ S ∨ a.heap.size ≤ x) : Kept S a c :=
  ⟨k.os.trans h.os, k.tape.trans h.tape, k.output.trans h.output, Nat.le_trans h.size k.size, fun i hi hn =>
    (k.block i (Nat.lt_of_lt_of_le hi h.size) (fun hm => by rcases hs i hm with h1 | h1; exact hn h1; omega)).trans (h.block i hi hn)⟩
theorem Kept.alloc {S : List Nat} {a w : World} (h : Kept S a w) (o : Obj) : Kept S a (w.alloc o) :=
  h.trans ⟨rfl, rfl, rfl, by simp, fun k hk _ => Below.heap_alloc _ _ _ (by omega)⟩
theorem Kept.drew {S : List Nat} {a w : World} (h : Kept S a w) : Kept S a w.drew := ⟨h.os, h.tape, h.output, h.size, h.block⟩
theorem Kept.drewN {S : List Nat} {a w : World} (h : Kept S a w) (n : Nat) : Kept S a (w.drewN n) := ⟨h.os, h.tape, h.output, h.size, h.block⟩
theorem Kept.setCell {S : List Nat} {a w : World} (h : Kept S a w) {p : Addr} (hp : p.block ∈ S ∨ a.heap.size ≤ p.block) (u : Value) : Kept S a (w.setCell p u) := by
  refine ⟨h.os, h.tape, h.output, by simpa [World.setCell] using h.size, fun k hk hn => ?_⟩
  rw [Below.heap_setCell _ _ _ _ (by intro e; subst e; rcases hp with h1 | h1; exact hn h1; omega)]
  exact h.block k hk hn
theorem Kept.grown {S : List Nat} {a w w' : World} {row : Option Nat} (h : Kept S a w) (hg : w.grownBy w' row) (hr : ∀ k, row = some k → k ∈ S ∨ a.heap.size ≤ k) : Kept S a w' :=
  ⟨hg.os.trans h.os, hg.tape.trans h.tape, hg.output.trans h.output, Nat.le_trans h.size hg.size, fun i hi hn =>
    (hg.block i (Nat.lt_of_lt_of_le hi h.size) (fun e => by rcases hr i e.symm with h1 | h1; exact hn h1; omega)).trans (h.block i hi hn)⟩
theorem Kept.below {S : List Nat} {w w' : World} (h : Kept S w w') {B : Nat} (hB : B ≤ w.heap.size) (hs : ∀ k ∈ S, B ≤ k) : Below B w w' :=
  ⟨h.os, h.tape, h.output, h.size, fun k hk => h.block k (by omega) (fun hm => by have := hs k hm; omega)⟩
theorem Kept.of_below {w w' : World} {B : Nat} (h : Below B w w') (hB : w.heap.size ≤ B) (S : List Nat) : Kept S w w' :=
  ⟨h.os, h.tape, h.output, h.size, fun k hk _ => h.block k (by omega)⟩
theorem Kept.heap {S : List Nat} {w w' : World} (h : Kept S w w') {k : Nat} {o : Obj} (hk : w.heap[k]? = some o) (hn : k ∉ S) : w'.heap[k]? = some o := by
  rw [h.block k (Array.getElem?_eq_some_iff.1 hk).1 hn]; exact hk
theorem Kept.cell {S : List Nat} {w w' : World} (h : Kept S w w') {p : Addr} {v : Value} (hp : w.cell? p = some v) (hn : p.block ∉ S) : w'.cell? p = some v :=
  (World.cell?_of_block (w := w) (h.block p.block (World.block_lt_of_cell? w p hp) hn)).trans hp
theorem Kept.frozen {S : List Nat} {w w' : World} (h : Kept S w w') {p : Addr} (hp : p.block < w.heap.size) (hn : p.block ∉ S) : w'.frozen? p = w.frozen? p :=
  World.frozen?_of_block (w := w) (h.block p.block hp hn)
theorem Kept.row {S : List Nat} {w w' : World} (h : Kept S w w') {base : Nat} {e : TypeId} {size : Nat} {v : Value} {n : Nat} {xs : List Value} (ho : w.ownsRow base e size v n xs)
    (hn : ∀ g, v.ownBlock = some g → g ∉ S) : w'.ownsRow base e size v n xs := by
  refine ⟨ho.1, ?_⟩
  rcases ho.2 with h1 | ⟨g, cap, cur, rfl, hbg, hg, r⟩
  · exact Or.inl h1
  · exact Or.inr ⟨g, cap, cur, rfl, hbg, h.heap hg (hn g rfl), r⟩
theorem Kept.ints {S : List Nat} {w w' : World} (h : Kept S w w') {k : IntKind} {a : Option Addr} {len cap : Nat} {zs : List Int} (hr : IsRow k w a len cap zs)
    (hS : ∀ g ∈ S, w.heap.size ≤ g) : IsRow k w' a len cap zs := by
  rcases hr with h1 | ⟨x, h1, h2, h3, h4, h5, h6⟩
  · exact Or.inl h1
  · refine Or.inr ⟨x, h1, h2, h3, h4, fun i hi => ?_, h6⟩
    have := h5 i hi
    exact h.cell this (fun hm => by have h1 := hS _ hm; have h2 := World.block_lt_of_cell? w _ this; omega)

theorem below_next {W w w1 : World} (h : Below W.heap.size W w) (h1 : Below w.heap.size w w1) : Below W.heap.size W w1 := h.trans (h1.mono h.size)

/-! ## Fodders -/

/-- A fodder element: its comment's slice value, kind, blanks, indent. -/
structure FE where
  ca : Option Addr
  cl : Nat
  cc : Nat
  k : Int
  b : Int
  i : Int

def FE.cells (e : FE) : List Value := [.slice e.ca e.cl e.cc, .int .i64 e.k, .int .i64 e.b, .int .i64 e.i]
def flat : List FE → List Value
  | [] => []
  | e :: l => e.cells ++ flat l

theorem flat_length (l : List FE) : (flat l).length = l.length * 4 := by
  induction l with
  | nil => rfl
  | cons e l ih => simp only [flat, FE.cells, List.length_append, ih, List.length_cons, List.length_nil]; omega

theorem flat_append (l m : List FE) : flat (l ++ m) = flat l ++ flat m := by
  induction l with
  | nil => rfl
  | cons e l ih => simp [flat, ih]

theorem flat_get (l : List FE) (i : Nat) (h : i < l.length) (j : Nat) (hj : j < 4) : (flat l)[i * 4 + j]? = (l[i].cells)[j]? := by
  induction l generalizing i with
  | nil => simp at h
  | cons e l ih =>
    cases i with
    | zero =>
      simp only [flat, Nat.zero_mul, Nat.zero_add, List.getElem_cons_zero]
      rw [List.getElem?_append_left (by simp [FE.cells]; omega)]
    | succ i =>
      simp only [flat, List.getElem_cons_succ]
      rw [List.getElem?_append_right (by simp [FE.cells]; omega)]
      rw [← ih i (by simpa using h)]
      congr 1
      simp [FE.cells]; omega

theorem flat_set (l : List FE) (i : Nat) (e e' : FE) (h : l[i]? = some e) (j : Nat) (hj : j < 4) (u : Value) (hc : e'.cells = e.cells.set j u) :
    (flat l).set (i * 4 + j) u = flat (l.set i e') := by
  induction l generalizing i with
  | nil => simp at h
  | cons x l ih =>
    cases i with
    | zero =>
      simp only [List.getElem?_cons_zero, Option.some.injEq] at h
      subst h
      simp only [flat, Nat.zero_mul, Nat.zero_add, List.set_cons_zero]
      rw [List.set_append_left _ _ (by simp [FE.cells]; omega), hc]
    | succ i =>
      simp only [List.getElem?_cons_succ] at h
      simp only [flat, List.set_cons_succ]
      rw [List.set_append_right _ _ (by simp [FE.cells]; omega), ← ih i h]
      congr 2
      simp [FE.cells]; omega

/-- v is a slice of fodder elements of the call's own, in a block from base on, that reads as l. -/
def Fod (w : World) (base : Nat) (v : Value) (l : List FE) : Prop := w.ownsRow base 87 4 v l.length (flat l)

theorem Fod.slice {w : World} {base : Nat} {v : Value} {l : List FE} (h : Fod w base v l) :
    ∃ a cap, v = .slice a l.length cap ∧ l.length ≤ cap ∧ cap ≤ maxLen ∧
      ∀ i, i < l.length → ∃ g, a = some ⟨g, 0, none⟩ ∧ base ≤ g ∧ g < w.heap.size := by
  obtain ⟨_, h | ⟨g, cap, cur, hv, hb, hg, hn, hc, _⟩⟩ := h
  · obtain ⟨rfl, h0⟩ := h
    refine ⟨none, 0, by rw [h0], by omega, by unfold maxLen; omega, fun i hi => by omega⟩
  · exact ⟨some ⟨g, 0, none⟩, cap, hv, hn, hc, fun _ _ => ⟨g, rfl, hb, (Array.getElem?_eq_some_iff.1 hg).1⟩⟩

theorem Fod.cells {w : World} {base : Nat} {g n cap : Nat} {l : List FE} (h : Fod w base (.slice (some ⟨g, 0, none⟩) n cap) l) (i : Nat) (hi : i < l.length) :
    ∃ e, l[i]? = some e ∧ w.cell? ⟨g, i * 4, none⟩ = some (.slice e.ca e.cl e.cc) ∧ w.cell? ⟨g, i * 4 + 1, none⟩ = some (.int .i64 e.k) ∧
    w.cell? ⟨g, i * 4 + 2, none⟩ = some (.int .i64 e.b) ∧ w.cell? ⟨g, i * 4 + 3, none⟩ = some (.int .i64 e.i) := by
  have key : ∀ j u, (flat l)[j]? = some u → w.cell? ⟨g, j, none⟩ = some u := by
    intro j u hu
    have := World.ownsRow.cells h (g := g) rfl j u hu
    rwa [add_off, Nat.zero_add] at this
  refine ⟨l[i], List.getElem?_eq_getElem hi, key _ _ ?_, key _ _ ?_, key _ _ ?_, key _ _ ?_⟩
  · have := flat_get l i hi 0 (by omega); simpa [FE.cells] using this
  · have := flat_get l i hi 1 (by omega); simpa [FE.cells] using this
  · have := flat_get l i hi 2 (by omega); simpa [FE.cells] using this
  · have := flat_get l i hi 3 (by omega); simpa [FE.cells] using this

theorem Fod.len {w : World} {base : Nat} {a : Option Addr} {n cap : Nat} {l : List FE} (h : Fod w base (.slice a n cap) l) : n = l.length := by
  obtain ⟨a', cap', hv, _⟩ := h.slice
  injection hv

theorem Fod.frozen {w : World} {base : Nat} {g n cap : Nat} {l : List FE} (h : Fod w base (.slice (some ⟨g, 0, none⟩) n cap) l) (j : Nat) : w.frozen? ⟨g, j, none⟩ = false := by
  obtain rfl := h.len
  exact World.ownsRow.frozenAt h j

theorem Fod.kept {S : List Nat} {w w' : World} {base : Nat} {v : Value} {l : List FE} (h : Fod w base v l) (hk : Kept S w w') (hn : ∀ g, v.ownBlock = some g → g ∉ S) : Fod w' base v l :=
  hk.row h hn

theorem Fod.below {w w' : World} {base B : Nat} {v : Value} {l : List FE} (h : Fod w base v l) (hb : Below B w w') (hB : w.heap.size ≤ B) : Fod w' base v l :=
  h.kept (Kept.of_below hb hB []) (by simp)

/-- One cell of one element is written. -/
theorem Fod.set {w : World} {base : Nat} {g n cap : Nat} {l : List FE} (h : Fod w base (.slice (some ⟨g, 0, none⟩) n cap) l) (i : Nat) (e e' : FE) (he : l[i]? = some e)
    (j : Nat) (hj : j < 4) (u : Value) (hc : e'.cells = e.cells.set j u) : Fod (w.setCell ⟨g, i * 4 + j, none⟩ u) base (.slice (some ⟨g, 0, none⟩) n cap) (l.set i e') := by
  obtain rfl := h.len
  have := (World.ownsRow.stored h (i * 4 + j) u).1
  rw [flat_set l i e e' he j hj u hc] at this
  unfold Fod
  rw [List.length_set]
  exact this

theorem FE.set_k (e : FE) (x : Int) : ({ e with k := x } : FE).cells = e.cells.set 1 (.int .i64 x) := rfl
theorem FE.set_b (e : FE) (x : Int) : ({ e with b := x } : FE).cells = e.cells.set 2 (.int .i64 x) := rfl
theorem FE.set_i (e : FE) (x : Int) : ({ e with i := x } : FE).cells = e.cells.set 3 (.int .i64 x) := rfl

/-- The zero element. -/
def FE.zero : FE := ⟨none, 0, 0, 0, 0, 0⟩

theorem made_flat (n : Nat) : (madeCells #[.slice none 0 0, .int .i64 0, .int .i64 0, .int .i64 0] (n * 4)).toList = flat (List.replicate n FE.zero) := by
  apply List.ext_getElem?
  intro j
  by_cases hj : j < n * 4
  · have e : j = (j / 4) * 4 + j % 4 := by omega
    have h4 : j % 4 < 4 := Nat.mod_lt _ (by omega)
    have hl : (flat (List.replicate n FE.zero))[j]? = FE.zero.cells[j % 4]? := by
      have := flat_get (List.replicate n FE.zero) (j / 4) (by simp; omega) (j % 4) h4
      rw [← e] at this
      simpa using this
    rw [hl]
    simp only [madeCells, Array.toList_map, List.getElem?_map, Array.toList_range]
    rw [List.getElem?_range hj]
    simp only [Option.map_some, List.size_toArray, List.length_cons, List.length_nil]
    generalize j % 4 = r at h4
    match r, h4 with
    | 0, _ => rfl
    | 1, _ => rfl
    | 2, _ => rfl
    | 3, _ => rfl
  · rw [List.getElem?_eq_none (by simp [madeCells]; omega), List.getElem?_eq_none (by rw [flat_length]; simp; omega)]

theorem FE.cells_one (l : List FE) : ∀ u ∈ flat l, u.oneCell' = true := by
  induction l with
  | nil => simp [flat]
  | cons e l ih =>
    intro u hu
    simp only [flat, List.mem_append] at hu
    rcases hu with hu | hu
    · simp only [FE.cells, List.mem_cons, List.not_mem_nil, or_false] at hu
      rcases hu with rfl | rfl | rfl | rfl <;> rfl
    · exact ih u hu

theorem Tryf.infoFE : (Tryf.prog.info? 87).map (fun i => (i.zero, i.size, i.bytes)) = some (some (.agg #[.slice none 0 0, .int .i64 0, .int .i64 0, .int .i64 0]), 4, 48) := by kernel_rfl

/-- It returns some bool and leaves the world alone. -/
def SomeBool (w : World) (e : Ending) (w' : World) : Prop := ∃ b : Bool, e = .returned (.bool b) ∧ w = w'
/-- It returns some bool and writes nothing that was there. -/
def SomeBoolB (w : World) (e : Ending) (w' : World) : Prop := ∃ b : Bool, e = .returned (.bool b) ∧ Below w.heap.size w w'

/-- Does some element hold a line break (any kind but interstitial)? -/
def anyNL (l : List FE) : Bool := l.any (fun e => e.k != 1)
theorem anyNL_take (l : List FE) (k : Nat) (e : FE) (he : l[k]? = some e) : anyNL (l.take (k + 1)) = (anyNL (l.take k) || (e.k != 1)) := by
  unfold anyNL
  rw [List.take_add_one, he]
  simp
theorem anyNL_hit (l : List FE) (k : Nat) (e : FE) (he : l[k]? = some e) (h : (e.k != 1) = true) : anyNL l = true := by
  unfold anyNL
  rw [List.any_eq_true]
  exact ⟨e, List.mem_of_getElem? he, h⟩

end Go.Proofs.YtfacfgecnpeceaaFmt
