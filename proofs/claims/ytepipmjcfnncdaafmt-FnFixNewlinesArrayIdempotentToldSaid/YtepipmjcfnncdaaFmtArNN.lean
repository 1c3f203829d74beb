/- The contracts of FixNewlines.Array and of its exported name, at an array of variables. -/
import Derived.Test.YtepipmjcfnncdaaFmtVisVN
import Derived.Test.YtepipmjcfnncdaaFmtFam2
import Derived.Test.YtepipmjcfnncdaaFmtOpV
namespace Go.Proofs.YtepipmjcfnncdaaFmt
open Go.ChangeShapes Go.WideShapes Go.ChangeAt Go.RowKit

abbrev varI (x : Nat) : Value := .iface 58 (.pointer (some ⟨x, 0, none⟩))

/-- Where the fodders of an array lie: those of its n variables, and the one before the bracket. -/
def pA (n nb : Nat) (x : Nat → Nat) (i : Nat) : Nat × Nat := if i < n then (x i, 1) else (nb, 1)
theorem pA_lt {n nb : Nat} {x : Nat → Nat} {i : Nat} (h : i < n) : pA n nb x i = (x i, 1) := if_pos h
theorem pA_last (n nb : Nat) (x : Nat → Nat) : pA n nb x n = (nb, 1) := if_neg (by omega)
theorem pA_snd (n nb : Nat) (x : Nat → Nat) (i : Nat) : (pA n nb x i).2 = 1 := by unfold pA; split <;> rfl
def QA (nb eb n pb vb : Nat) (x : Nat → Nat) (b : Nat) : Prop := b = nb ∨ b = eb ∨ b = pb ∨ b = vb ∨ ∃ i, i < n ∧ b = x i

/-- At nb lies an array, its n elements at eb, element i the variable at x i; at pb lies the pass, at vb the list of the variables. -/
structure ArrW (w : World) (base nb eb n pb vb : Nat) (x : Nat → Nat) (v : Nat → Value) (l : Nat → List FE) : Prop where
  fam : Fam w base (n + 1) (pA n nb x) (QA nb eb n pb vb x) v l
  c0 : w.cell? ⟨nb, 0, none⟩ = some (.slice (some ⟨eb, 0, none⟩) n n)
  e0 : ∀ i, i < n → w.cell? ⟨eb, i * 2, none⟩ = some (varI (x i))
  e1 : ∀ i, i < n → w.cell? ⟨eb, i * 2 + 1, none⟩ = some (.slice none 0 0)
  vs : ∀ i, i < n → w.cell? ⟨vb, i, none⟩ = some (.pointer (some ⟨x i, 0, none⟩))
  ne : nb ≠ eb
  vn : vb ≠ nb
  vx : ∀ i, i < n → x i ≠ vb
  xe : ∀ i, i < n → x i ≠ eb
  pn : pb ≠ nb
  px : ∀ i, i < n → x i ≠ pb
  pass : IsPass w pb

theorem ArrW.same {w w' : World} {base nb eb n pb vb : Nat} {x : Nat → Nat} {v v' : Nat → Value} {l l' : Nat → List FE} (h : ArrW w base nb eb n pb vb x v l) (hf : Fam w' base (n + 1) (pA n nb x) (QA nb eb n pb vb x) v' l') (hs : Same (n + 1) (pA n nb x) (QA nb eb n pb vb x) w w') : ArrW w' base nb eb n pb vb x v' l' where
  fam := hf
  c0 := (hs.cell nb 0 (Or.inl rfl) (fun i hi e => by have := pA_snd n nb x i; rw [e] at this; simp at this)).trans h.c0
  e0 := fun i hi => (hs.cell eb (i * 2) (Or.inr (Or.inl rfl)) (fun j hj e => by have := pA_snd n nb x j; rw [e] at this; simp at this; omega)).trans (h.e0 i hi)
  e1 := fun i hi => (hs.cell eb (i * 2 + 1) (Or.inr (Or.inl rfl)) (fun j hj e => by
    unfold pA at e
    split at e
    · rename_i hj; injection e with e _; exact h.xe j hj e
    · injection e with e _; exact h.ne e)).trans (h.e1 i hi)
  vs := fun i hi => (hs.cell vb i (Or.inr (Or.inr (Or.inr (Or.inl rfl)))) (fun j hj e => by
    unfold pA at e
    split at e
    · rename_i hj; injection e with e _; exact h.vx j hj e
    · injection e with e _; exact h.vn e.symm)).trans (h.vs i hi)
  ne := h.ne
  vn := h.vn
  vx := h.vx
  xe := h.xe
  pn := h.pn
  px := h.px
  pass := (hs.blk pb (Or.inr (Or.inr (Or.inl rfl))) (fun i hi e => by
    unfold pA at e
    split at e
    · rename_i hj; exact h.px i hj e
    · exact h.pn e.symm)).trans h.pass
theorem ArrW.kept {w w' : World} {base nb eb n pb vb : Nat} {x : Nat → Nat} {v : Nat → Value} {l : Nat → List FE} (h : ArrW w base nb eb n pb vb x v l) (q : Kept [] w w') : ArrW w' base nb eb n pb vb x v l :=
  h.same (h.fam.kept q) (Same.of_kept q h.fam.lt)
theorem ArrW.to {w w' : World} {base nb eb n pb vb : Nat} {x : Nat → Nat} {v : Nat → Value} {l : Nat → List FE} {D : Nat → Prop} (h : ArrW w base nb eb n pb vb x v l) (ht : FamTo w base (n + 1) (pA n nb x) (QA nb eb n pb vb x) l D w') :
    ∃ v' l', ArrW w' base nb eb n pb vb x v' l' := by
  obtain ⟨v', l', h1, _, h3, _⟩ := ht
  exact ⟨v', l', h.same h1 h3⟩

set_option maxRecDepth 100000 in
set_option maxHeartbeats 4000000 in
theorem base_ArrayV (w : World) (base : Nat) (r : Value) (pb vb nb eb n : Nat) (x : Nat → Nat) (v : Nat → Value) (l : Nat → List FE) (ctx : Value) (h : ArrW w base nb eb n pb vb x v l) (hnb : n ≤ 1048576) :
    Calls Tryf.prog 91 #[r, .iface 172 (.pointer (some ⟨pb, 0, none⟩)), .pointer (some ⟨nb, 0, none⟩), ctx] w fun e w' => e = .returned (.tuple #[]) ∧ Kept [] w w' := by
  have c0 := h.c0
  have H := Lib.hid h; clear h
  have hn1 := nilA_Fodder pb
  have hn2 := nilA_Visit pb
  go_enter Tryf.func91, Tryf.ntmps91
  go_wp2_with fail
  go_loopw [14] (fun i wr => ∃ k : Nat, k ≤ n ∧ i = .int .i64 k ∧ Kept [] w wr) (fun i _ => n - (intOf i).toNat)
  case atStart => exact ⟨0, Nat.zero_le _, rfl, Kept.refl _ _⟩
  case round =>
    obtain ⟨k, hk, rfl, hb⟩ := hrel
    have d0 := hb.cell c0 (by simp)
    have HB := Lib.hid hb; clear hb
    by_cases hlt : k < n
    · have i1 : (0 : Int) ≤ (k : Int) := by omega
      have i2 : (k : Int) < (n : Int) := by omega
      have hm := meth_Visit pb wr.drew (H.out.kept HB.out.drew).pass
      go_wp2_with fail
      go_still_tail 13, (by kernel_rfl)
      go_wp2_with fail
      have a := H.out.kept HB.out.drew
      have fc := a.fam.c k (by omega)
      have ff := a.fam.f k (by omega)
      have fd := a.fam.fod k (by omega)
      rw [pA_lt hlt] at fc ff
      refine (visit_Var _ base _ pb eb (k * 2) (x k) a.pass _ (v k) (l k) fd (a.e0 k hlt) fc ff).mono ?_
      rintro e w1 ⟨rfl, k1⟩
      have q1 := HB.out.drew.trans k1
      have d1 := q1.cell c0 (by simp)
      have hm1 := meth_Fodder pb w1.drew (H.out.kept q1.drew).pass
      have Q1 := Lib.hid q1; clear q1 a fc ff fd k1 hm d0
      go_wp2_with fail
      go_still_tail 13, (by kernel_rfl)
      go_wp2_with fail
      have a := H.out.kept Q1.out.drew
      refine (passFodder _ base _ pb eb (k * 2 + 1) a.pass _ (.slice none 0 0) [] (fod_nil _ _) (a.e1 k hlt)).mono ?_
      rintro e w2 ⟨rfl, k2⟩
      have Q2 := Lib.hid (Q1.out.drew.trans k2); clear a k2 hm1
      go_wp2_with fail
      go_roundw
      case rel => exact ⟨k + 1, by omega, by go_num, Q2.out⟩
      case measure => simp [intOf]; omega
    · obtain rfl : k = n := by omega
      have hm1 := meth_Fodder pb wr.drew (H.out.kept HB.out.drew).pass
      go_wp2_with fail
      go_still_tail 9, (by kernel_rfl)
      go_wp2_with fail
      have a := H.out.kept HB.out.drew
      have fc := a.fam.c k (by omega)
      have fd := a.fam.fod k (by omega)
      rw [pA_last] at fc
      refine (passFodder _ base _ pb nb 1 a.pass _ (v k) (l k) fd fc).mono ?_
      rintro e w2 ⟨rfl, k2⟩
      have Q2 := Lib.hid (HB.out.drew.trans k2); clear a k2 hm1 fc fd
      go_wp2_with fail
      go_end0
      exact ⟨rfl, Q2.out⟩
end Go.Proofs.YtepipmjcfnncdaaFmt
