/- The walk of the law FnNewIndentShiftsWithBase: it returns true at every input, and writes nothing that was there. -/
import Derived.Test.YtdnhfboclbpdbaaIndZ
import Derived.Test.YtdnhfboclbpdbaaBuild
import Derived.Test.YtdnhfboclbpdbaaClone
namespace Go.Proofs.Ytdnhfboclbpdbaa
open Go.ChangeShapes Go.WideShapes Go.ChangeAt Go.RowKit

set_option maxHeartbeats 400000 in
theorem zzBytes_NiSh (w : World) (a : Option Addr) (len cap : Nat) (x1 x2 x3 x4 x5 x6 : Int) (h : len ≤ 9223372036854775807) :
    Calls Try.prog 18 #[.slice a len cap, .int .i64 x1, .int .i64 x2, .int .i64 x3, .int .i64 x4, .int .i64 x5, .int .i64 x6] w (SomeBool w) := by
  go_enter Try.func18, Try.ntmps18
  go_wp2
  all_goals
    go_ret
    exact ⟨_, rfl, rfl⟩

namespace fnNewIndentShiftsWithBase
set_option linter.unusedVariables false
set_option maxRecDepth 100000 in
set_option maxHeartbeats 1000000 in
theorem walk (a0 : Option Addr) (len0 cap0 : Nat) (z0 : List Int) (a1 : Int) (a2 : Int) (a3 : Int) (a4 : Int) (a5 : Int) (a6 : Int) (w : World) (w0 : IsRow .i64 w a0 len0 cap0 z0) (w1 : (Lit.int .i64 a1).wf = true) (w2 : (Lit.int .i64 a2).wf = true) (w3 : (Lit.int .i64 a3).wf = true) (w4 : (Lit.int .i64 a4).wf = true) (w5 : (Lit.int .i64 a5).wf = true) (w6 : (Lit.int .i64 a6).wf = true) :
    Calls Try.prog 4 #[.slice a0 len0 cap0, .int .i64 a1, .int .i64 a2, .int .i64 a3, .int .i64 a4, .int .i64 a5, .int .i64 a6] w fun e w' => e = .returned (.bool true) ∧ Below w.heap.size w w' := by
  have hw := w0.open
  have hb0 : len0 ≤ 9223372036854775807 := by have := hw.1; have := hw.2.1; unfold maxLen at *; omega
  have hzl : (z0.take len0).length = len0 := by rw [List.length_take, hw.2.2.1]; have := hw.1; omega
  have W0 := Lib.hid w0; clear w0 w1 w2 w3 w4 w5 w6 hw
  have HZL := Lib.hid hzl; clear hzl
  go_enter Try.func4, Try.ntmps4
  go_wp2_with fail
  refine (zzBytes_NiSh _ _ _ _ _ _ _ _ _ _ hb0).mono ?_
  rintro e w' ⟨b, rfl, rfl⟩
  cases b
  · go_wp2_with fail
    go_ret
    exact ⟨rfl, Below.refl _ _⟩
  by_cases h2 : 65536 < len0
  · go_wp2_with fail
    go_ret
    exact ⟨rfl, Below.refl _ _⟩
  go_wp2_with fail
  refine (zzCloneInts_any _ _ _ _ z0 W0.out (by omega)).mono ?_
  rintro e w1 ⟨a0', c0', rfl, hr1, hb1⟩
  have HR1 := Lib.hid hr1; clear hr1
  have HB1 := Lib.hid hb1; clear hb1
  generalize z0.take len0 = zs at *
  go_wp2_with fail
  refine (ZZnewFix_127 _ _ _).mono ?_
  rintro e w2 ⟨rfl, hfx2, hb2⟩
  have HB2 := Lib.hid (below_next HB1.out hb2); clear HB1
  have R20 := Lib.hid ((Kept.of_below hb2 (Nat.le_refl _) []).ints HR1.out (by simp)); clear HR1
  have XN2 := Lib.hid hfx2; clear hfx2 hb2
  go_wp2_with fail
  refine (zzBuild_any _ _ _ _ zs _ _ _ [] _ _ _ [] R20.out (Or.inl ⟨rfl, rfl, rfl, rfl⟩) (Or.inl ⟨rfl, rfl, rfl, rfl⟩) (by omega)).mono ?_
  rintro e w3 ⟨rfl, hbi⟩
  obtain ⟨l, hf3, hsamel, hb3⟩ := hbi.same
  clear hbi
  have HB3 := Lib.hid (below_next HB2.out hb3); clear HB2
  have R30 := Lib.hid ((Kept.of_below hb3 (Nat.le_refl _) []).ints R20.out (by simp)); clear R20
  have X30 := Lib.hid (XN2.out.below hb3); clear XN2
  have FN3 := Lib.hid hf3; clear hf3 hb3
  have HSl := Lib.hid hsamel; clear hsamel
  have hself : ∀ p q, selI false p q = q := fun _ _ => rfl
  have hselt : ∀ p q, selI true p q = p := fun _ _ => rfl
  have hwr : wrap64 (wrap64 (a1 + a6) + a5) = wrap64 (wrap64 (a1 + a5) + a6) := by unfold wrap64; omega
  have HWR := Lib.hid hwr; clear hwr
  cases hsl : sameL l
  all_goals
    have HSS := Lib.hid (HSl.out.symm.trans hsl); clear HSl
    go_wp2_with fail
    refine (ZZnewIndent_n008_127_any _ _ _ _ l _ _ _ _ FN3.out X30.out.1 X30.out.2.2.1).mono ?_
    rintro e w4 ⟨rfl, hb4⟩
    rw [hsl]
    first | (rw [hself]; try rw [hself]) | (rw [hselt]; try rw [hselt])
    have HB4 := Lib.hid (below_next HB3.out hb4); clear HB3
    have R40 := Lib.hid ((Kept.of_below hb4 (Nat.le_refl _) []).ints R30.out (by simp)); clear R30
    have F40 := Lib.hid (FN3.out.below hb4 (Nat.le_refl _)); clear FN3
    have X40 := Lib.hid (X30.out.below hb4); clear X30
    clear hb4
    go_wp2_with fail
    refine (ZZnewIndent_n008_127_any _ _ _ _ l _ _ _ _ F40.out X40.out.1 X40.out.2.2.1).mono ?_
    rintro e w5 ⟨rfl, hb5⟩
    rw [hsl]
    first | (rw [hself]; try rw [hself]) | (rw [hselt]; try rw [hselt])
    have HB5 := Lib.hid (below_next HB4.out hb5); clear HB4
    have R50 := Lib.hid ((Kept.of_below hb5 (Nat.le_refl _) []).ints R40.out (by simp)); clear R40
    have F50 := Lib.hid (F40.out.below hb5 (Nat.le_refl _)); clear F40
    have X50 := Lib.hid (X40.out.below hb5); clear X40
    clear hb5
    have hne : (wrap64 (wrap64 (a1 + a6) + a5) != wrap64 (wrap64 (a1 + a5) + a6)) = false := by rw [HWR.out]; simp
    have heq : (wrap64 (wrap64 (a1 + a6) + a5) == wrap64 (wrap64 (a1 + a5) + a6)) = true := by rw [HWR.out]; simp
    go_wp2_with fail
    refine (zzSameLine_any _ _ _ _ zs R50.out).mono ?_
    rintro e w9 ⟨rfl, rfl⟩
    rw [HSS.out]
    go_wp2_with fail
    go_ret
    exact ⟨by simp, HB5.out⟩
end fnNewIndentShiftsWithBase
end Go.Proofs.Ytdnhfboclbpdbaa
