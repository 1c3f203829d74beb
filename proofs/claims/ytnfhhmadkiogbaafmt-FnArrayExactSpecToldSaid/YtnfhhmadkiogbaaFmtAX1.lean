/- An array of null literals that a law builds element by element; FixTrailingCommas.Array at an empty array. -/
import Derived.Test.YtnfhhmadkiogbaaFmtArrN
import Derived.Test.YtnfhhmadkiogbaaFmtRsk
namespace Go.Proofs.YtnfhhmadkiogbaaFmt
open Go.ChangeShapes Go.WideShapes Go.ChangeAt Go.RowKit

def upd {α : Type} (f : Nat → α) (k : Nat) (x : α) (i : Nat) : α := if i = k then x else f i
theorem upd_same {α : Type} (f : Nat → α) (k : Nat) (x : α) : upd f k x k = x := by unfold upd; rw [if_pos rfl]
theorem upd_other {α : Type} (f : Nat → α) {k i : Nat} (x : α) (h : i ≠ k) : upd f k x i = f i := by unfold upd; rw [if_neg h]
abbrev lnX (x : Nat) : Value := .iface 27 (.pointer (some ⟨x, 0, none⟩))

/-- The first k of n elements at eb are laid: the nulls at xs, the comma fodders vs, which read as ls. -/
structure ArP (w : World) (eb n k : Nat) (xs : Nat → Nat) (vs : Nat → Value) (ls : Nat → List FE) : Prop where
  es : ∀ i, i < k → w.cell? ⟨eb, i * 2, none⟩ = some (lnX (xs i)) ∧ w.cell? ⟨eb, i * 2 + 1, none⟩ = some (vs i) ∧ Fod w (eb + 1) (vs i) (ls i) ∧ w.cell? ⟨xs i, 0, none⟩ = some (.slice none 0 0) ∧ w.frozen? ⟨xs i, 0, none⟩ = false ∧ eb < xs i
  bf : ∀ j, j < n * 2 → ∃ u, w.cell? ⟨eb, j, none⟩ = some u
  bz : ∀ j, w.frozen? ⟨eb, j, none⟩ = false
  el : eb < w.heap.size
  inc : ∀ i j, i ≤ j → j < k → ∀ g, (vs j).ownBlock = some g → xs i < g ∧ (i < j → ∀ g', (vs i).ownBlock = some g' → g' < g)

theorem ArP.kept0 {w w' : World} {eb n k : Nat} {xs : Nat → Nat} {vs : Nat → Value} {ls : Nat → List FE} (h : ArP w eb n k xs vs ls) (q : Kept [] w w') : ArP w' eb n k xs vs ls where
  es := fun i hi => by
    obtain ⟨e1, e2, e3, e4, e5, e6⟩ := h.es i hi
    exact ⟨q.cell e1 (by simp), q.cell e2 (by simp), e3.kept q (by simp), q.cell e4 (by simp), (q.frozen (World.block_lt_of_cell? w _ e4) (by simp)).trans e5, e6⟩
  bf := fun j hj => by
    obtain ⟨u, hu⟩ := h.bf j hj
    exact ⟨u, q.cell hu (by simp)⟩
  bz := fun j => (q.frozen (p := ⟨eb, j, none⟩) h.el (by simp)).trans (h.bz j)
  el := Nat.lt_of_lt_of_le h.el q.size
  inc := h.inc

/-- One cell of the elements is written, at an element that is not laid yet. -/
theorem ArP.put {w : World} {eb n k : Nat} {xs : Nat → Nat} {vs : Nat → Value} {ls : Nat → List FE} (h : ArP w eb n k xs vs ls) (o : Nat) (ho : k * 2 ≤ o) (u : Value) : ArP (w.setCell ⟨eb, o, none⟩ u) eb n k xs vs ls := by
  have q : Kept [eb] w (w.setCell ⟨eb, o, none⟩ u) := (Kept.refl [eb] w).setCell (Or.inl (by simp)) u
  have other : ∀ j v, j ≠ o → w.cell? ⟨eb, j, none⟩ = some v → (w.setCell ⟨eb, o, none⟩ u).cell? ⟨eb, j, none⟩ = some v := fun j v hj hv => (World.cell?_setCell_other _ _ _ _ (fun e => hj (by injection e with _ e; exact e.symm))).trans hv
  exact {
    es := fun i hi => by
      obtain ⟨e1, e2, e3, e4, e5, e6⟩ := h.es i hi
      have nx : xs i ∉ [eb] := by simp; omega
      exact ⟨other _ _ (by omega) e1, other _ _ (by omega) e2, e3.kept q (fun g hg hm => by have := (World.ownsRow.lt e3 g hg).1; simp at hm; omega), q.cell e4 nx, (q.frozen (World.block_lt_of_cell? w _ e4) nx).trans e5, e6⟩
    bf := fun j hj => by
      obtain ⟨v, hv⟩ := h.bf j hj
      by_cases hjo : j = o
      · subst hjo
        exact ⟨u, World.cell?_setCell_same _ _ _ hv⟩
      · exact ⟨v, other _ _ hjo hv⟩
    bz := fun j => (World.frozen?_setCell _ _ _ _).trans (h.bz j)
    el := by simpa [World.setCell] using h.el
    inc := h.inc }

/-- The next element: its null at x, its comma fodder u. -/
theorem ArP.step {w wc : World} {eb n k : Nat} {xs : Nat → Nat} {vs : Nat → Value} {ls : Nat → List FE} (h : ArP w eb n k xs vs ls) (hk : k < n) {x : Nat} (hx : w.heap.size ≤ x) {wa : World} (ka : Kept [] w wa) (cx : wa.cell? ⟨x, 0, none⟩ = some (.slice none 0 0)) (fx : wa.frozen? ⟨x, 0, none⟩ = false)
    (kc : Kept [] (wa.setCell ⟨eb, k * 2, none⟩ (lnX x)) wc) {u : Value} {l : List FE} (hu : Fod wc (eb + 1) u l) (hul : ∀ g, u.ownBlock = some g → x < g) :
    ArP (wc.setCell ⟨eb, k * 2 + 1, none⟩ u) eb n (k + 1) (upd xs k x) (upd vs k u) (upd ls k l) ∧ Kept [eb] w (wc.setCell ⟨eb, k * 2 + 1, none⟩ u) := by
  have qb : Kept [eb] wa (wa.setCell ⟨eb, k * 2, none⟩ (lnX x)) := (Kept.refl [eb] wa).setCell (Or.inl (by simp)) _
  have qd : Kept [eb] wc (wc.setCell ⟨eb, k * 2 + 1, none⟩ u) := (Kept.refl [eb] wc).setCell (Or.inl (by simp)) _
  have hel := h.el
  have nx : x ∉ [eb] := by simp; omega
  have h1 := (((h.kept0 ka).put (k * 2) (Nat.le_refl _) (lnX x)).kept0 kc).put (k * 2 + 1) (by omega) u
  have lx := World.block_lt_of_cell? _ _ cx
  refine ⟨?_, ((ka.mono (by simp)).trans qb).trans ((kc.mono (by simp)).trans qd)⟩
  obtain ⟨v0, hv0⟩ := (h.kept0 ka).bf (k * 2) (by omega)
  have c0 : (wc.setCell ⟨eb, k * 2 + 1, none⟩ u).cell? ⟨eb, k * 2, none⟩ = some (lnX x) :=
    (World.cell?_setCell_other _ _ _ _ (fun e => by injection e with _ e; omega)).trans (kc.cell (World.cell?_setCell_same _ _ _ hv0) (by simp))
  obtain ⟨v1, hv1⟩ := (((h.kept0 ka).put (k * 2) (Nat.le_refl _) (lnX x)).kept0 kc).bf (k * 2 + 1) (by omega)
  have c1 : (wc.setCell ⟨eb, k * 2 + 1, none⟩ u).cell? ⟨eb, k * 2 + 1, none⟩ = some u := World.cell?_setCell_same _ _ _ hv1
  have cxb := qb.cell cx nx
  have cxd := qd.cell (kc.cell cxb (by simp)) nx
  have fxd := (qd.frozen (World.block_lt_of_cell? _ _ (kc.cell cxb (by simp))) nx).trans ((kc.frozen (World.block_lt_of_cell? _ _ cxb) (by simp)).trans ((qb.frozen lx nx).trans fx))
  exact {
    es := fun i hi => by
      by_cases hik : i = k
      · subst hik
        rw [upd_same, upd_same, upd_same]
        exact ⟨c0, c1, hu.kept qd (fun g hg hm => by have := (World.ownsRow.lt hu g hg).1; simp at hm; omega), cxd, fxd, by omega⟩
      · rw [upd_other _ _ hik, upd_other _ _ hik, upd_other _ _ hik]
        exact h1.es i (by omega)
    bf := h1.bf
    bz := h1.bz
    el := h1.el
    inc := fun i j hij hj g hg => by
      by_cases hjk : j = k
      · subst hjk
        rw [upd_same] at hg
        have hg1 := hul g hg
        by_cases hik : i = j
        · subst hik
          rw [upd_same]
          exact ⟨hg1, fun h => absurd h (Nat.lt_irrefl _)⟩
        · rw [upd_other _ _ hik, upd_other _ _ hik]
          obtain ⟨-, -, e3, e4, -, -⟩ := h.es i (by omega)
          have h2 := World.block_lt_of_cell? _ _ e4
          dsimp only at h2
          refine ⟨by omega, fun _ g' hg' => ?_⟩
          have := (World.ownsRow.lt e3 g' hg').2
          omega
      · rw [upd_other _ _ hjk] at hg
        rw [upd_other _ _ (show i ≠ k by omega)]
        obtain ⟨h2, h3⟩ := h.inc i j hij (by omega) g hg
        refine ⟨h2, fun hlt g' hg' => ?_⟩
        rw [upd_other _ _ (show i ≠ k by omega)] at hg'
        exact h3 hlt g' hg' }

/-- All elements are laid, and the array's node over them. -/
theorem ArP.done {w wf wn : World} {eb m nb : Nat} {xs : Nat → Nat} {vs : Nat → Value} {ls : Nat → List FE} {tc : Bool} {vc : Value} {lc : List FE} (h : ArP w eb (m + 1) (m + 1) xs vs ls) (kf : Kept [] w wf) (hc : Fod wf (eb + 1) vc lc) (hcl : ∀ g, vc.ownBlock = some g → w.heap.size ≤ g)
    (kn : Kept [] wf wn) (hnb : wf.heap.size ≤ nb) {cs : Array Value} {t : TypeId} (hn : wn.heap[nb]? = some (.cells cs t (0, 0))) (c0 : cs[0]? = some (.slice (some ⟨eb, 0, none⟩) (m + 1) (m + 1))) (c1 : cs[1]? = some vc) (c11 : cs[11]? = some (.bool tc)) :
    ArrN wn (eb + 1) nb eb m tc (vs m) vc (ls m) lc ls := by
  have hh := (h.kept0 kf).kept0 kn
  obtain ⟨e1, e2, e3, e4, e5, e6⟩ := hh.es m (Nat.lt_succ_self _)
  have hs := kf.size
  have hel := h.el
  have old : ∀ i, i < m + 1 → xs i < w.heap.size ∧ ∀ g, (vs i).ownBlock = some g → g < w.heap.size := fun i hi => by
    obtain ⟨-, -, d3, d4, -, -⟩ := h.es i hi
    exact ⟨World.block_lt_of_cell? _ _ d4, fun g hg => (World.ownsRow.lt d3 g hg).2⟩
  have hcb : ∀ g, vc.ownBlock = some g → g < wf.heap.size := fun g hg => (World.ownsRow.lt hc g hg).2
  have lo : ∀ i, i < m + 1 → ∀ g, (vs i).ownBlock = some g → eb < g := fun i hi g hg => by
    obtain ⟨-, -, d3, -, -, -⟩ := h.es i hi
    have := (World.ownsRow.lt d3 g hg).1
    omega
  exact {
    two := {
      cp := e2
      ct := (cell_of_block hn 11).trans c11
      cq := (cell_of_block hn 1).trans c1
      fp := hh.bz _
      ft := frozen_of_block hn 11
      fq := frozen_of_block hn 1
      pq := by intro e; injection e with e _; omega
      pt := by intro e; injection e with e _; omega
      qt := by intro e; injection e with _ e; omega
      l := e3
      c := hc.kept kn (by simp)
      al := fun g hg => by
        have h1 := (old m (Nat.lt_succ_self _)).2 g hg
        have h2 := lo m (Nat.lt_succ_self _) g hg
        refine ⟨by dsimp only; omega, by dsimp only; omega, by dsimp only; omega, fun e => ?_⟩
        have := hcl g e
        omega
      ac := fun g hg => by
        have h1 := hcl g hg
        have h2 := hcb g hg
        exact ⟨by dsimp only; omega, by dsimp only; omega, by dsimp only; omega⟩ }
    c0 := (cell_of_block hn 0).trans c0
    ne := by omega
    el := fun i hi => by
      obtain ⟨d1, d2, d3, d4, d5, d6⟩ := hh.es i (by omega)
      have h1 := (old i (by omega)).1
      refine ⟨xs i, d1, d4, d5, by omega, by omega, fun e => ?_, fun e => ?_⟩
      · have := (h.inc i m (by omega) (Nat.lt_succ_self _) _ e).1
        omega
      · have := hcl _ e
        omega
    cm := fun i hi => by
      obtain ⟨d1, d2, d3, d4, d5, d6⟩ := hh.es i (by omega)
      refine ⟨vs i, d2, d3, fun g hg => ?_⟩
      have h1 := (old i (by omega)).2 g hg
      have h2 := lo i (by omega) g hg
      refine ⟨by omega, by omega, fun e => ?_, fun e => ?_⟩
      · have := (h.inc i m (by omega) (Nat.lt_succ_self _) _ e).2 hi g hg
        omega
      · have := hcl _ e
        omega }

set_option maxRecDepth 100000 in
theorem fixArray0 (w : World) (pb nb : Nat) (r c : Value) (a : Option Addr) (cap : Nat) (h0 : w.cell? ⟨nb, 0, none⟩ = some (.slice a 0 cap)) :
    Calls Tryf.prog 12 #[.pointer (some ⟨pb, 0, none⟩), r, .pointer (some ⟨nb, 0, none⟩), c] w fun e w' => e = .returned (.tuple #[]) ∧ Kept [] w w' := by
  go_enter Tryf.func12, Tryf.ntmps12
  go_wp2_with fail
  exact bodyPost_ret (v := .tuple #[]) (results_none rfl _ _ _) rfl ⟨rfl, Kept.refl _ _⟩
set_option maxRecDepth 100000 in
theorem zzArray0 (w : World) (nb : Nat) (a : Option Addr) (cap : Nat) (c0 : w.cell? ⟨nb, 0, none⟩ = some (.slice a 0 cap)) :
    Calls Tryf.prog 9 #[.pointer (some ⟨nb, 0, none⟩)] w fun e w' => e = .returned (.tuple #[]) ∧ Kept [] w w' := by
  go_enter Tryf.func9, Tryf.ntmps9
  go_wp2_with fail
  refine (fixArray0 _ _ _ _ _ _ _ (((Kept.refl [] w).alloc _).cell c0 (by simp))).mono ?_
  rintro e w1 ⟨rfl, k1⟩
  have K1 := Lib.hid k1; clear k1
  go_wp2_with fail
  go_end0
  exact ⟨rfl, ((Kept.refl [] w).alloc _).trans K1.out⟩
end Go.Proofs.YtnfhhmadkiogbaaFmt
