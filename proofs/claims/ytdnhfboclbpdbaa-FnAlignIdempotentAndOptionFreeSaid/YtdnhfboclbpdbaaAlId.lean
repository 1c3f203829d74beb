/- The walk of the law FnAlignIdempotentAndOptionFree: it returns true at every input, and writes nothing that was there. -/
import Derived.Test.YtdnhfboclbpdbaaIndZ
import Derived.Test.YtdnhfboclbpdbaaBuild
import Derived.Test.YtdnhfboclbpdbaaClone
namespace Go.Proofs.Ytdnhfboclbpdbaa
open Go.ChangeShapes Go.WideShapes Go.ChangeAt Go.RowKit

set_option maxHeartbeats 400000 in
theorem zzBytes_AlId (w : World) (a : Option Addr) (len cap : Nat) (x1 x2 x3 x4 x5 : Int) (h : len ≤ 9223372036854775807) :
    Calls Try.prog 13 #[.slice a len cap, .int .i64 x1, .int .i64 x2, .int .i64 x3, .int .i64 x4, .int .i64 x5] w (SomeBool w) := by
  go_enter Try.func13, Try.ntmps13
  go_wp2
  all_goals
    go_ret
    exact ⟨_, rfl, rfl⟩

namespace fnAlignIdempotentAndOptionFree
set_option linter.unusedVariables false
set_option maxRecDepth 100000 in
set_option maxHeartbeats 1000000 in
theorem walk (a0 : Option Addr) (len0 cap0 : Nat) (z0 : List Int) (a1 : Int) (a2 : Int) (a3 : Int) (a4 : Int) (a5 : Int) (w : World) (w0 : IsRow .i64 w a0 len0 cap0 z0) (w1 : (Lit.int .i64 a1).wf = true) (w2 : (Lit.int .i64 a2).wf = true) (w3 : (Lit.int .i64 a3).wf = true) (w4 : (Lit.int .i64 a4).wf = true) (w5 : (Lit.int .i64 a5).wf = true) :
    Calls Try.prog 3 #[.slice a0 len0 cap0, .int .i64 a1, .int .i64 a2, .int .i64 a3, .int .i64 a4, .int .i64 a5] w fun e w' => e = .returned (.bool true) ∧ Below w.heap.size w w' := by
  have hw := w0.open
  have hb0 : len0 ≤ 9223372036854775807 := by have := hw.1; have := hw.2.1; unfold maxLen at *; omega
  have hzl : (z0.take len0).length = len0 := by rw [List.length_take, hw.2.2.1]; have := hw.1; omega
  have W0 := Lib.hid w0; clear w0 w1 w2 w3 w4 w5 hw
  have HZL := Lib.hid hzl; clear hzl
  go_enter Try.func3, Try.ntmps3
  go_wp2_with fail
  refine (zzBytes_AlId _ _ _ _ _ _ _ _ _ hb0).mono ?_
  rintro e w' ⟨b, rfl, rfl⟩
  cases b
  · go_wp2_with fail
    go_ret
    exact ⟨rfl, Below.refl _ _⟩
  by_cases h2 : 65536 < len0
  · go_wp2_with fail
    go_ret
    exact ⟨rfl, Below.refl _ _⟩
  go_wp2_with fail
  refine (zzCloneInts_any _ _ _ _ z0 W0.out (by omega)).mono ?_
  rintro e w1 ⟨a0', c0', rfl, hr1, hb1⟩
  have HR1 := Lib.hid hr1; clear hr1
  have HB1 := Lib.hid hb1; clear hb1
  generalize z0.take len0 = zs at *
  go_wp2_with fail
  refine (ZZnewFix_127 _ _ _).mono ?_
  rintro e w2 ⟨rfl, hfx2, hb2⟩
  have HB2 := Lib.hid (below_next HB1.out hb2); clear HB1
  have R20 := Lib.hid ((Kept.of_below hb2 (Nat.le_refl _) []).ints HR1.out (by simp)); clear HR1
  have XN2 := Lib.hid hfx2; clear hfx2 hb2
  go_wp2_with fail
  refine (ZZnewFix_127 _ _ _).mono ?_
  rintro e w3 ⟨rfl, hfx3, hb3⟩
  have HB3 := Lib.hid (below_next HB2.out hb3); clear HB2
  have R30 := Lib.hid ((Kept.of_below hb3 (Nat.le_refl _) []).ints R20.out (by simp)); clear R20
  have X30 := Lib.hid (XN2.out.below hb3); clear XN2
  have XN3 := Lib.hid hfx3; clear hfx3 hb3
  go_wp2_with fail
  refine (zzBuild_any _ _ _ _ zs _ _ _ [] _ _ _ [] R30.out (Or.inl ⟨rfl, rfl, rfl, rfl⟩) (Or.inl ⟨rfl, rfl, rfl, rfl⟩) (by omega)).mono ?_
  rintro e w4 ⟨rfl, hbi⟩
  obtain ⟨l, hf4, hsamel, hb4⟩ := hbi.same
  clear hbi
  have HB4 := Lib.hid (below_next HB3.out hb4); clear HB3
  have R40 := Lib.hid ((Kept.of_below hb4 (Nat.le_refl _) []).ints R30.out (by simp)); clear R30
  have X40 := Lib.hid (X30.out.below hb4); clear X30
  have X41 := Lib.hid (XN3.out.below hb4); clear XN3
  have FN4 := Lib.hid hf4; clear hf4 hb4
  have HSl := Lib.hid hsamel; clear hsamel
  have hself : ∀ p q, selI false p q = q := fun _ _ => rfl
  have hselt : ∀ p q, selI true p q = p := fun _ _ => rfl
  cases hsl : sameL l
  all_goals
    clear HSl
    go_wp2_with fail
    refine (ZZalign_n008_127_any _ _ _ _ l _ _ _ FN4.out).mono ?_
    rintro e w5 ⟨rfl, hb5⟩
    rw [hsl]
    first | (rw [hself]; try rw [hself]) | (rw [hselt]; try rw [hselt])
    have HB5 := Lib.hid (below_next HB4.out hb5); clear HB4
    have R50 := Lib.hid ((Kept.of_below hb5 (Nat.le_refl _) []).ints R40.out (by simp)); clear R40
    have F50 := Lib.hid (FN4.out.below hb5 (Nat.le_refl _)); clear FN4
    have X50 := Lib.hid (X40.out.below hb5); clear X40
    have X51 := Lib.hid (X41.out.below hb5); clear X41
    clear hb5
    go_wp2_with fail
    refine (ZZalign_n008_127_any _ _ _ _ l _ _ _ F50.out).mono ?_
    rintro e w6 ⟨rfl, hb6⟩
    rw [hsl]
    first | (rw [hself]; try rw [hself]) | (rw [hselt]; try rw [hselt])
    have HB6 := Lib.hid (below_next HB5.out hb6); clear HB5
    have R60 := Lib.hid ((Kept.of_below hb6 (Nat.le_refl _) []).ints R50.out (by simp)); clear R50
    have F60 := Lib.hid (F50.out.below hb6 (Nat.le_refl _)); clear F50
    have X60 := Lib.hid (X50.out.below hb6); clear X50
    have X61 := Lib.hid (X51.out.below hb6); clear X51
    clear hb6
    go_wp2_with fail
    refine (ZZalign_n008_127_any _ _ _ _ l _ _ _ F60.out).mono ?_
    rintro e w7 ⟨rfl, hb7⟩
    rw [hsl]
    first | (rw [hself]; try rw [hself]) | (rw [hselt]; try rw [hselt])
    have HB7 := Lib.hid (below_next HB6.out hb7); clear HB6
    have R70 := Lib.hid ((Kept.of_below hb7 (Nat.le_refl _) []).ints R60.out (by simp)); clear R60
    have F70 := Lib.hid (F60.out.below hb7 (Nat.le_refl _)); clear F60
    have X70 := Lib.hid (X60.out.below hb7); clear X60
    have X71 := Lib.hid (X61.out.below hb7); clear X61
    clear hb7
    go_wp2_with fail
    go_ret
    exact ⟨rfl, HB7.out⟩
end fnAlignIdempotentAndOptionFree
end Go.Proofs.Ytdnhfboclbpdbaa
