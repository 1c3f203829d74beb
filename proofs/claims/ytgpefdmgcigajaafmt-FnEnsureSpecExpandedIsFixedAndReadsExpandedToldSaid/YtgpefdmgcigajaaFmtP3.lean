/- Plain law: once every fodder of a chain has been ended, and no paragraph was empty, the chain holds a line break. -/
import Derived.Test.YtgpefdmgcigajaaFmtSpO
namespace Go.Proofs.YtgpefdmgcigajaaFmt
open Go.ChangeShapes Go.WideShapes Go.ChangeAt Go.RowKit

theorem ends_nl {ds : List ZE} (hg : GoodL ds) (hn : noEP ds) (he : endsC ds = true) : hasNL ds = true := by
  unfold endsC at he
  cases hl : ds.getLast? with
  | none => rw [hl] at he; cases he
  | some z =>
    rw [hl] at he
    have hz : z ∈ ds := List.mem_of_getLast? hl
    obtain ⟨g1, g2, g3, g4, g5⟩ := hg z hz
    have h0 := hn z hz
    unfold hasNL
    rw [List.any_eq_true]
    refine ⟨z, hz, ?_⟩
    unfold nlE
    rcases g1 with h | h | h
    · simp [h]
    · simp [h] at he
    · by_cases hc : 0 < z.c
      · simp [h, hc]
      · by_cases hb : 0 < z.b
        · simp [h, hb]
        · exact absurd ⟨h, by omega, by omega⟩ h0
theorem noEP_ens {ds : List ZE} (hn : noEP ds) : noEP (ensE ds) := by
  unfold ensE
  split
  · exact hn
  · intro z hz
    rcases List.mem_append.1 hz with hz | hz
    · exact hn z hz
    · simp at hz
      subst hz
      intro h
      exact absurd h.1 (by decide)
theorem ens_nl {ss : List SE} (hpos : 0 < ss.length) (hg : ∀ s ∈ ss, GoodSp s) (hn : ∀ s ∈ ss, NoSp s) : specsNL (ss.map ensSp) = true := by
  cases ss with
  | nil => simp at hpos
  | cons s ss =>
    unfold specsNL
    rw [List.any_eq_true]
    refine ⟨ensSp s, by simp, ?_⟩
    unfold spNL ensSp
    rw [ends_nl (hg s (by simp)).1.ens (noEP_ens (hn s (by simp)).1) (ensE_ends _)]
    rfl
end Go.Proofs.YtgpefdmgcigajaaFmt
