/- The walk of the law FnShouldExpandSpecIsAnyNewline: it returns true at every list of levels, and writes nothing that was there. -/
import Derived.Test.YtgpefdmgcigajaaFmtP2
import Derived.Test.YtgpefdmgcigajaaFmtZB
namespace Go.Proofs.YtgpefdmgcigajaaFmt
open Go.ChangeShapes Go.WideShapes Go.ChangeAt Go.RowKit

namespace fnShouldExpandSpecIsAnyNewline
set_option maxRecDepth 100000 in
set_option maxHeartbeats 8000000 in
theorem walk (a0 : Option Addr) (len0 cap0 : Nat) (z0 : List SE) (w : World) (w0 : RdS w a0 len0 cap0 z0) :
    Calls Tryf.prog 3 #[.slice a0 len0 cap0] w fun e w' => e = .returned (.bool true) ∧ Below w.heap.size w w' := by
  have hle := w0.le
  have htop := w0.top
  have hdl := w0.len
  unfold maxLen at htop
  have HDL := Lib.hid hdl; clear hdl
  have H := Lib.hid w0; clear w0
  go_enter Tryf.func3, Tryf.ntmps3
  go_wp2_with fail
  refine (zzBytes_FnShouldExpandSpecIsAnyNewline_any _ _ _ _ z0 H.out).mono ?_
  rintro e w1 ⟨b, rfl, k1, hsm⟩
  have K1 := Lib.hid k1; clear k1
  cases b
  · clear hsm
    go_wp2_with fail
    go_ret
    exact ⟨rfl, K1.out.below (Nat.le_refl _) (by simp)⟩
  obtain ⟨hlen, hsm⟩ := hsm rfl
  have HSM := Lib.hid hsm; clear hsm
  go_wp2_with fail
  refine (zzSpecsBytes_any _ _ _ _ z0 (H.out.kept0 K1.out)).mono ?_
  rintro e w2 ⟨n2, rfl, k2⟩
  have K2 := Lib.hid (K1.out.trans k2); clear k2
  by_cases hn2 : 1048576 < n2
  · go_wp2_with fail
    go_ret
    exact ⟨rfl, K2.out.below (Nat.le_refl _) (by simp)⟩
  go_wp2_with fail
  refine (zzIntIs64_any _).mono ?_
  rintro e w2' ⟨rfl, rfl⟩
  by_cases h0 : len0 = 0
  · subst h0
    go_wp2_with fail
    go_ret
    exact ⟨rfl, K2.out.below (Nat.le_refl _) (by simp)⟩
  have h0' : ((len0 : Int) == 0) = false := by simpa using h0
  go_wp2_with fail
  refine (zzSpecsOK_any _ _ _ _ z0 (H.out.kept0 K2.out)).mono ?_
  rintro e w3 ⟨b, rfl, k3, hgd⟩
  have K3 := Lib.hid (K2.out.trans k3); clear k3
  cases b
  · clear hgd
    go_wp2_with fail
    go_ret
    exact ⟨rfl, K3.out.below (Nat.le_refl _) (by simp)⟩
  have HGD := Lib.hid (hgd rfl); clear hgd
  have hpos : 0 < len0 := by omega
  have HPOS : Hid (0 < z0.length) := Lib.hid (by rw [HDL.out]; exact hpos)
  go_wp2_with fail
  refine (zzBuildSpec_any _ _ _ _ z0 (H.out.kept0 K3.out) hlen hpos HGD.out HSM.out).mono ?_
  intro e w4 hch
  obtain ⟨va, vn, vc, ca, cm, cc, po, x, rfl, k4, hsh⟩ := should_of hch HPOS.out HGD.out HSM.out
  have K4 := Lib.hid (K3.out.trans k4); clear k4 hch
  unfold lvlOf at hsh ⊢
  have HSH := Lib.hid hsh; clear hsh
  go_wp2_with fail
  refine (HSH.out _ ((Kept.refl _ _).alloc _)).mono ?_
  rintro e w5 ⟨rfl, k5⟩
  have K5 := Lib.hid ((K4.out.alloc _).trans k5); clear k5
  obtain ⟨B, hB⟩ : ∃ B, specsNL z0 = B := ⟨_, rfl⟩
  rw [hB]
  have HB := Lib.hid hB; clear hB
  go_wp2_with fail
  refine (zzSpecsHaveNewline_any _ _ _ _ z0 (H.out.kept0 K5.out)).mono ?_
  rintro e w6 ⟨rfl, k6⟩
  have K6 := Lib.hid (K5.out.trans k6); clear k6
  rw [HB.out]
  go_wp2_with fail
  go_ret
  exact ⟨by simp, K6.out.below (Nat.le_refl _) (by simp)⟩
end fnShouldExpandSpecIsAnyNewline
end Go.Proofs.YtgpefdmgcigajaaFmt
