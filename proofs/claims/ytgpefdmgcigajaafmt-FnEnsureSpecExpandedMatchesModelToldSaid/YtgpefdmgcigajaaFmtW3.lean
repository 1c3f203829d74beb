/- The walk of the law FnEnsureSpecExpandedMatchesModel: it returns true at every list of levels, and writes nothing that was there. -/
import Derived.Test.YtgpefdmgcigajaaFmtP2
import Derived.Test.YtgpefdmgcigajaaFmtZB
import Derived.Test.YtgpefdmgcigajaaFmtMv
namespace Go.Proofs.YtgpefdmgcigajaaFmt
open Go.ChangeShapes Go.WideShapes Go.ChangeAt Go.RowKit

namespace fnEnsureSpecExpandedMatchesModel
set_option maxRecDepth 100000 in
set_option maxHeartbeats 8000000 in
theorem walk (a0 : Option Addr) (len0 cap0 : Nat) (z0 : List SE) (w : World) (w0 : RdS w a0 len0 cap0 z0) :
    Calls Tryf.prog 4 #[.slice a0 len0 cap0] w fun e w' => e = .returned (.bool true) ∧ Below w.heap.size w w' := by
  have hle := w0.le
  have htop := w0.top
  have hdl := w0.len
  unfold maxLen at htop
  have HDL := Lib.hid hdl; clear hdl
  have H := Lib.hid w0; clear w0
  go_enter Tryf.func4, Tryf.ntmps4
  go_wp2_with fail
  refine (zzBytes_FnEnsureSpecExpandedMatchesModel_any _ _ _ _ z0 H.out).mono ?_
  rintro e w1 ⟨b, rfl, k1, hsm⟩
  have K1 := Lib.hid k1; clear k1
  cases b
  · clear hsm
    go_wp2_with fail
    go_ret
    exact ⟨rfl, K1.out.below (Nat.le_refl _) (by simp)⟩
  obtain ⟨hlen, hsm⟩ := hsm rfl
  have HSM := Lib.hid hsm; clear hsm
  go_wp2_with fail
  refine (zzSpecsBytes_any _ _ _ _ z0 (H.out.kept0 K1.out)).mono ?_
  rintro e w2 ⟨n2, rfl, k2⟩
  have K2 := Lib.hid (K1.out.trans k2); clear k2
  by_cases hn2 : 1048576 < n2
  · go_wp2_with fail
    go_ret
    exact ⟨rfl, K2.out.below (Nat.le_refl _) (by simp)⟩
  go_wp2_with fail
  refine (zzIntIs64_any _).mono ?_
  rintro e w2' ⟨rfl, rfl⟩
  by_cases h0 : len0 = 0
  · subst h0
    go_wp2_with fail
    go_ret
    exact ⟨rfl, K2.out.below (Nat.le_refl _) (by simp)⟩
  have h0' : ((len0 : Int) == 0) = false := by simpa using h0
  go_wp2_with fail
  refine (zzSpecsOK_any _ _ _ _ z0 (H.out.kept0 K2.out)).mono ?_
  rintro e w3 ⟨b, rfl, k3, hgd⟩
  have K3 := Lib.hid (K2.out.trans k3); clear k3
  cases b
  · clear hgd
    go_wp2_with fail
    go_ret
    exact ⟨rfl, K3.out.below (Nat.le_refl _) (by simp)⟩
  have HGD := Lib.hid (hgd rfl); clear hgd
  have hpos : 0 < len0 := by omega
  have HPOS : Hid (0 < z0.length) := Lib.hid (by rw [HDL.out]; exact hpos)
  go_wp2_with fail
  refine (zzBuildSpec_any _ _ _ _ z0 (H.out.kept0 K3.out) hlen hpos HGD.out HSM.out).mono ?_
  intro e w4 hch
  obtain ⟨va, vn, vc, ca, cm, cc, po, x, rfl, k4, hsp⟩ := spc_of hch HPOS.out (by rw [HDL.out]; exact hlen) HGD.out HSM.out
  have K4 := Lib.hid (K3.out.trans k4); clear hch
  have hbs := K3.out.size
  unfold lvlOf at hsp ⊢
  have hsp4 : Spc (w4.alloc (.cells #[.slice va vn vc, .slice none 0 0, .slice ca cm cc, .pointer po, .iface 45 (.pointer (some ⟨x, 0, none⟩)), .string ⟨#[120]⟩, .slice none 0 0] 34)) w4.heap.size w3.heap.size z0 := hsp _ _ ((Kept.refl _ _).alloc _) (heap_alloc_new w4 _) (Nat.le_refl _)
  have HSP := Lib.hid hsp4; clear hsp hsp4 k4
  obtain ⟨B, hB⟩ : ∃ B, w3.heap.size = B := ⟨_, rfl⟩
  rw [hB] at HSP hbs
  clear hB
  go_wp2_with fail
  refine (HSP.out.ensure HSM.out).mono ?_
  rintro e w5 ⟨rfl, hb5, hsp5⟩
  have B5 := Lib.hid (((K4.out.alloc (.cells #[.slice va vn vc, .slice none 0 0, .slice ca cm cc, .pointer po, .iface 45 (.pointer (some ⟨x, 0, none⟩)), .string ⟨#[120]⟩, .slice none 0 0] 34)).below (Nat.le_refl _) (by simp)).trans (hb5.mono hbs)); clear hb5
  have HSP5 := Lib.hid hsp5; clear hsp5
  obtain ⟨S0, hS0⟩ : ∃ S0, w4.heap.size = S0 := ⟨_, rfl⟩
  rw [hS0] at HSP5 ⊢
  clear hS0 HSP
  have hsz := B5.out.size
  go_wp2_with fail
  refine (zzSpecsEnsured_any _ _ _ _ z0 (H.out.below B5.out (Nat.le_refl _)) hlen HSM.out).mono ?_
  rintro e w6 ⟨⟨ta, tn, tc⟩, rfl, hso, k6⟩
  have K6 := Lib.hid k6; clear k6
  have HSO := Lib.hid hso; clear hso
  unfold Trip.val at HSO
  dsimp only [Trip.val]
  go_wp2_with fail
  refine ((HSP5.out.kept K6.out).equals ta tn tc HSO.out.rds).mono ?_
  rintro e w7 ⟨rfl, k7⟩
  have K7 := Lib.hid k7; clear k7
  go_wp2_with fail
  go_ret
  exact ⟨rfl, B5.out.trans ((K6.out.trans K7.out).below hsz (by simp))⟩
end fnEnsureSpecExpandedMatchesModel
end Go.Proofs.YtgpefdmgcigajaaFmt
