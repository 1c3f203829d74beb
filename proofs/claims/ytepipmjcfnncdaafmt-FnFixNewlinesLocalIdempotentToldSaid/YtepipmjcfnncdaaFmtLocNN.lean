/- The contracts of FixNewlines.Local and of its exported name, at a local whose bodies are variables. -/
import Derived.Test.YtepipmjcfnncdaaFmtVisVN
import Derived.Test.YtepipmjcfnncdaaFmtNL
namespace Go.Proofs.YtepipmjcfnncdaaFmt
open Go.ChangeShapes Go.WideShapes Go.ChangeAt Go.RowKit

abbrev varI (x : Nat) : Value := .iface 58 (.pointer (some ⟨x, 0, none⟩))
/-- A variable without fodder lies there. -/
def AtV (w : World) (y : Nat) : Prop := w.cell? ⟨y, 1, none⟩ = some (.slice none 0 0) ∧ w.frozen? ⟨y, 1, none⟩ = false
theorem AtV.kept {S : List Nat} {w w' : World} {y : Nat} (h : AtV w y) (q : Kept S w w') (hn : y ∉ S) : AtV w' y := ⟨q.cell h.1 hn, (q.frozen (World.block_lt_of_cell? w _ h.1) hn).trans h.2⟩
theorem AtV.lt {w : World} {y : Nat} (h : AtV w y) : y < w.heap.size := World.block_lt_of_cell? w _ h.1

/-- The cells of a bind. -/
def bndC (v : Value) (x : Nat) : List Value :=
  [v, varI x, .slice none 0 0, .string ⟨#[120]⟩, .slice none 0 0, .pointer none, .pointer none, .string ⟨#[]⟩, .int .i64 0, .int .i64 0, .int .i64 0, .int .i64 0]

/-- At nb lies a local, its n binds at eb, its body at xb; bind i has the fodder v i, which reads as l i, and the body at x i. -/
structure LocN (w : World) (base nb eb xb n : Nat) (x : Nat → Nat) (v : Nat → Value) (l : Nat → List FE) : Prop where
  c0 : w.cell? ⟨nb, 0, none⟩ = some (.slice (some ⟨eb, 0, none⟩) n n)
  c1 : w.cell? ⟨nb, 1, none⟩ = some (varI xb)
  vb : AtV w xb
  cells : ∀ i, i < n → ∀ j, j < 12 → w.cell? ⟨eb, i * 12 + j, none⟩ = (bndC (v i) (x i))[j]?
  vx : ∀ i, i < n → AtV w (x i)
  fr : ∀ o, w.frozen? ⟨eb, o, none⟩ = false
  fod : ∀ i, i < n → Fod w base (v i) (l i)
  sep : ∀ i, i < n → ∀ g, (v i).ownBlock = some g → g ≠ nb ∧ g ≠ eb ∧ g ≠ xb ∧ ∀ j, j < n → g ≠ x j
  dj : ∀ i j, i < n → j < n → i ≠ j → ∀ g, (v i).ownBlock = some g → (v j).ownBlock ≠ some g
  ne : nb ≠ eb
  xe : xb ≠ eb
  xn : ∀ j, j < n → x j ≠ eb
  be : base ≤ eb
  el : eb < w.heap.size

theorem LocN.kept {w w' : World} {base nb eb xb n : Nat} {x : Nat → Nat} {v : Nat → Value} {l : Nat → List FE} (h : LocN w base nb eb xb n x v l) (q : Kept [] w w') : LocN w' base nb eb xb n x v l where
  c0 := q.cell h.c0 (by simp)
  c1 := q.cell h.c1 (by simp)
  vb := h.vb.kept q (by simp)
  cells := fun i hi j hj => by
    rw [← h.cells i hi j hj]
    exact World.cell?_of_block (q.block eb h.el (by simp))
  vx := fun i hi => (h.vx i hi).kept q (by simp)
  fr := fun o => (q.frozen (p := ⟨eb, o, none⟩) h.el (by simp)).trans (h.fr o)
  fod := fun i hi => (h.fod i hi).kept q (by simp)
  sep := h.sep
  dj := h.dj
  ne := h.ne
  xe := h.xe
  xn := h.xn
  be := h.be
  el := Nat.lt_of_lt_of_le h.el q.size

/-- One cell of a function is another. -/
def put {α : Type} (f : Nat → α) (k : Nat) (u : α) : Nat → α := fun i => if i = k then u else f i
theorem put_same {α : Type} (f : Nat → α) (k : Nat) (u : α) : put f k u k = u := if_pos rfl
theorem put_other {α : Type} (f : Nat → α) (k : Nat) (u : α) {i : Nat} (h : i ≠ k) : put f k u i = f i := if_neg h

theorem LocN.appd {w w' : World} {base nb eb xb n k : Nat} {x : Nat → Nat} {v : Nat → Value} {l : Nat → List FE} {l' : List FE} (h : LocN w base nb eb xb n x v l) (hk : k < n) (ha : Appd w base eb (k * 12) (v k) l' w') :
    ∃ v', LocN w' base nb eb xb n x (put v k v') (put l k l') ∧ Kept (eb :: (v k).ownBlock.toList) w w' ∧ ∀ g, v'.ownBlock = some g → (v k).ownBlock = some g ∨ w.heap.size ≤ g := by
  obtain ⟨v', a1, a2, a3, a4, a5, a6⟩ := ha
  refine ⟨v', ?_, a4, fun g hg => (a5 g hg).2⟩
  have notS : ∀ b, b ≠ eb → (∀ g, (v k).ownBlock = some g → g ≠ b) → b ∉ eb :: (v k).ownBlock.toList := fun b h1 h2 hm => by
    simp at hm
    rcases hm with e | e
    · exact h1 e
    · exact h2 b e rfl
  have nbl := World.block_lt_of_cell? w _ h.c0
  exact {
    c0 := a4.cell h.c0 (notS nb h.ne (fun g hg => (h.sep k hk g hg).1))
    c1 := a4.cell h.c1 (notS nb h.ne (fun g hg => (h.sep k hk g hg).1))
    vb := h.vb.kept a4 (notS xb h.xe (fun g hg => (h.sep k hk g hg).2.2.1))
    cells := fun i hi j hj => by
      by_cases hik : i = k
      · subst hik
        rw [put_same]
        by_cases hj0 : j = 0
        · subst hj0
          exact a1
        · rw [a6.1 _ (by omega), h.cells i hi j hj]
          match j, hj0, hj with
          | j + 1, _, _ => rfl
      · rw [put_other _ _ _ hik, a6.1 _ (by omega)]
        exact h.cells i hi j hj
    vx := fun i hi => (h.vx i hi).kept a4 (notS (x i) (h.xn i hi) (fun g hg => (h.sep k hk g hg).2.2.2 i hi))
    fr := fun o => (a6.2 o).trans (h.fr o)
    fod := fun i hi => by
      by_cases hik : i = k
      · subst hik
        rw [put_same, put_same]
        exact a3
      · rw [put_other _ _ _ hik, put_other _ _ _ hik]
        exact (h.fod i hi).kept a4 (fun g hg => notS g (h.sep i hi g hg).2.1 (fun g' hg' e => h.dj i k hi hk hik g hg (e ▸ hg')))
    sep := fun i hi g hg => by
      by_cases hik : i = k
      · subst hik
        rw [put_same] at hg
        rcases (a5 g hg).2 with e | e
        · exact h.sep i hi g e
        · refine ⟨?_, ?_, ?_, fun j hj => ?_⟩
          · dsimp only at nbl; omega
          · have := h.el; omega
          · have := h.vb.lt; omega
          · have := (h.vx j hj).lt; omega
      · rw [put_other _ _ _ hik] at hg
        exact h.sep i hi g hg
    dj := fun i j hi hj hij g hg => by
      have lt := fun (i : Nat) (hi : i < n) (g : Nat) (hg : (v i).ownBlock = some g) => (World.ownsRow.lt (h.fod i hi) g hg).2
      by_cases hik : i = k
      · subst hik
        rw [put_same] at hg
        rw [put_other _ _ _ (Ne.symm hij)]
        rcases (a5 g hg).2 with e | e
        · exact h.dj i j hi hj hij g e
        · intro e2
          have := lt j hj g e2
          omega
      · rw [put_other _ _ _ hik] at hg
        by_cases hjk : j = k
        · subst hjk
          rw [put_same]
          intro e2
          rcases (a5 g e2).2 with e | e
          · exact h.dj i j hi hj hij g hg e
          · have := lt i hi g hg
            omega
        · rw [put_other _ _ _ hjk]
          exact h.dj i j hi hj hij g hg
    ne := h.ne
    xe := h.xe
    xn := h.xn
    be := h.be
    el := Nat.lt_of_lt_of_le h.el a4.size }

set_option maxRecDepth 100000 in
set_option maxHeartbeats 4000000 in
theorem base_Local (w : World) (base : Nat) (r : Value) (pb nb eb xb n : Nat) (x : Nat → Nat) (v : Nat → Value) (l : Nat → List FE) (hpb : IsPass w pb) (ctx : Value) (h : LocN w base nb eb xb n x v l) (hnb : n ≤ 1048576) :
    Calls Tryf.prog 89 #[r, .iface 172 (.pointer (some ⟨pb, 0, none⟩)), .pointer (some ⟨nb, 0, none⟩), ctx] w fun e w' => e = .returned (.tuple #[]) ∧ Kept [] w w' := by
  have c0 := h.c0
  have HPB := Lib.hid hpb; clear hpb
  have H := Lib.hid h; clear h
  have hn1 := nilA_Fodder pb
  have hn2 := nilA_Visit pb
  go_enter Tryf.func89, Tryf.ntmps89
  go_wp2_with fail
  go_loopw [15] (fun i wr => ∃ k : Nat, k ≤ n ∧ i = .int .i64 k ∧ Kept [] w wr) (fun i _ => n - (intOf i).toNat)
  case atStart => exact ⟨0, Nat.zero_le _, rfl, Kept.refl _ _⟩
  case round =>
    obtain ⟨k, hk, rfl, hb⟩ := hrel
    have d0 := hb.cell c0 (by simp)
    have HB := Lib.hid hb; clear hb
    by_cases hlt : k < n
    · have i1 : (0 : Int) ≤ (k : Int) := by omega
      have i2 : (k : Int) < (n : Int) := by omega
      have hm := meth_Fodder pb wr.drew (HPB.out.kept HB.out.drew (by simp))
      have cel := fun (wx : World) (q : Kept [] w wx) (j : Nat) (hj : j < 12) => (H.out.kept q).cells k hlt j hj
      have CEL := Lib.hid cel; clear cel
      go_wp2_with fail
      go_still_tail 9, (by kernel_rfl)
      go_wp2_with fail
      have q := HB.out.drew
      refine (passFodder _ base _ pb eb (k * 12) (HPB.out.kept q (by simp)) _ (v k) (l k) ((H.out.fod k hlt).kept q (by simp)) (CEL.out _ q 0 (by omega))).mono ?_
      rintro e w1 ⟨rfl, k1⟩
      have q1 := q.trans k1
      have e5 := CEL.out _ q1 5 (by omega)
      have hm1 := meth_Fodder pb w1.drew (HPB.out.kept q1.drew (by simp))
      have Q1 := Lib.hid q1; clear q1 q k1 hm d0
      simp only [bndC, List.getElem?_cons_succ, List.getElem?_cons_zero] at e5
      go_wp2_with fail
      go_still_tail 9, (by kernel_rfl)
      go_wp2_with fail
      have q := Q1.out.drew
      refine (passFodder _ base _ pb eb (k * 12 + 2) (HPB.out.kept q (by simp)) _ (.slice none 0 0) [] (fod_nil _ _) (CEL.out _ q 2 (by omega))).mono ?_
      rintro e w2 ⟨rfl, k2⟩
      have q2 := q.trans k2
      have hm2 := meth_Visit pb w2.drew (HPB.out.kept q2.drew (by simp))
      have Q2 := Lib.hid q2; clear q2 q k2 hm1 e5
      go_wp2_with fail
      go_still_tail 9, (by kernel_rfl)
      go_wp2_with fail
      have q := Q2.out.drew
      have av := (H.out.vx k hlt).kept q (by simp)
      refine (visit_Var _ base _ pb eb (k * 12 + 1) (x k) (HPB.out.kept q (by simp)) _ (.slice none 0 0) [] (fod_nil _ _) (CEL.out _ q 1 (by omega)) av.1 av.2).mono ?_
      rintro e w3 ⟨rfl, k3⟩
      have q3 := q.trans k3
      have hm3 := meth_Fodder pb w3.drew (HPB.out.kept q3.drew (by simp))
      have Q3 := Lib.hid q3; clear q3 q k3 hm2 av
      go_wp2_with fail
      go_still_tail 9, (by kernel_rfl)
      go_wp2_with fail
      have q := Q3.out.drew
      refine (passFodder _ base _ pb eb (k * 12 + 4) (HPB.out.kept q (by simp)) _ (.slice none 0 0) [] (fod_nil _ _) (CEL.out _ q 4 (by omega))).mono ?_
      rintro e w4 ⟨rfl, k4⟩
      have Q4 := Lib.hid (q.trans k4); clear q k4 hm3
      go_wp2_with fail
      go_roundw
      case rel => exact ⟨k + 1, by omega, by go_num, Q4.out⟩
      case measure => simp [intOf]; omega
    · obtain rfl : k = n := by omega
      have hm1 := meth_Visit pb wr.drew (HPB.out.kept HB.out.drew (by simp))
      go_wp2_with fail
      go_still_tail 9, (by kernel_rfl)
      go_wp2_with fail
      have q := HB.out.drew
      have av := H.out.vb.kept q (by simp)
      refine (visit_Var _ base _ pb nb 1 xb (HPB.out.kept q (by simp)) _ (.slice none 0 0) [] (fod_nil _ _) (q.cell H.out.c1 (by simp)) av.1 av.2).mono ?_
      rintro e w2 ⟨rfl, k2⟩
      have Q2 := Lib.hid (q.trans k2); clear q k2 hm1 av
      go_wp2_with fail
      go_end0
      exact ⟨rfl, Q2.out⟩
end Go.Proofs.YtepipmjcfnncdaaFmt
