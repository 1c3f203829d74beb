/- The contracts of n008_142's zzSpecAllClean and zzSpecNoNewline. -/
import Derived.Test.YtgdipdbmllkckaaGreatFmtAb
namespace Go.Proofs.YtgdipdbmllkckaaGreatFmt
open Go.ChangeShapes Go.WideShapes Go.ChangeAt Go.RowKit

theorem out_meas (P : Pl) (n : Nat) (h : ∀ i j, i < n → j < n → P.out (i + 1) = P.out (j + 1) → i = j) : ∃ M : Value → Nat, ∀ k, k ≤ n → M (P.out k) = k := by
  classical
  refine ⟨fun c => if h : ∃ k, k ≤ n ∧ c = P.out k then h.choose else 0, fun k hk => ?_⟩
  have hex : ∃ k', k' ≤ n ∧ P.out k = P.out k' := ⟨k, hk, rfl⟩
  show (if h : ∃ k', k' ≤ n ∧ P.out k = P.out k' then h.choose else 0) = k
  rw [dif_pos hex]
  obtain ⟨h1, h2⟩ := hex.choose_spec
  generalize hex.choose = m at h1 h2
  cases m with
  | zero =>
    cases k with
    | zero => rfl
    | succ k => rw [P.out_zero, P.out_succ] at h2; simp at h2
  | succ m =>
    cases k with
    | zero => rw [P.out_zero, P.out_succ] at h2; simp at h2
    | succ k => rw [h k m (by omega) (by omega) h2]
theorem ACN.inj {w : World} {base nb lb n : Nat} {P : Pl} {Q : Nat → Prop} {v : Nat × Nat → Value} {l : Nat × Nat → List FE} (h : ACN w base nb lb n P Q v l) : ∀ i j, i < n → j < n → P.out (i + 1) = P.out (j + 1) → i = j := by
  intro i j hi hj e
  rw [P.out_succ, P.out_succ] at e
  by_cases hij : i = j
  · exact hij
  · have hx : P.In n (i, 0) := ⟨hi, Nat.zero_le _⟩
    have hy : P.In n (j, 0) := ⟨hj, Nat.zero_le _⟩
    have := h.fam.inj (i, 0) (j, 0) (Or.inl hx) (Or.inl hy) (by simp; exact hij)
    rw [acp_in hx, acp_in hy, P.pos0, P.pos0] at this
    exfalso
    apply this
    simp at e
    rw [e.1, e.2]

end Go.Proofs.YtgdipdbmllkckaaGreatFmt
