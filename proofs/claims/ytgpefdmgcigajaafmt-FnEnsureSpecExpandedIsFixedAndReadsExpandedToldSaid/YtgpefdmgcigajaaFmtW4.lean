/- The walk of the law FnEnsureSpecExpandedIsFixedAndReadsExpanded: it returns true at every list of levels, and writes nothing that was there. -/
import Derived.Test.YtgpefdmgcigajaaFmtP2
import Derived.Test.YtgpefdmgcigajaaFmtZB
import Derived.Test.YtgpefdmgcigajaaFmtMv
import Derived.Test.YtgpefdmgcigajaaFmtP3
namespace Go.Proofs.YtgpefdmgcigajaaFmt
open Go.ChangeShapes Go.WideShapes Go.ChangeAt Go.RowKit

namespace fnEnsureSpecExpandedIsFixedAndReadsExpanded
set_option maxRecDepth 100000 in
set_option maxHeartbeats 8000000 in
theorem walk (a0 : Option Addr) (len0 cap0 : Nat) (z0 : List SE) (w : World) (w0 : RdS w a0 len0 cap0 z0) :
    Calls Tryf.prog 6 #[.slice a0 len0 cap0] w fun e w' => e = .returned (.bool true) ∧ Below w.heap.size w w' := by
  have hle := w0.le
  have htop := w0.top
  have hdl := w0.len
  unfold maxLen at htop
  have HDL := Lib.hid hdl; clear hdl
  have H := Lib.hid w0; clear w0
  go_enter Tryf.func6, Tryf.ntmps6
  go_wp2_with fail
  refine (zzBytes_FnEnsureSpecExpandedIsFixedAndReadsExpanded_any _ _ _ _ z0 H.out).mono ?_
  rintro e w1 ⟨b, rfl, k1, hsm⟩
  have K1 := Lib.hid k1; clear k1
  cases b
  · clear hsm
    go_wp2_with fail
    go_ret
    exact ⟨rfl, K1.out.below (Nat.le_refl _) (by simp)⟩
  obtain ⟨hlen, hsm⟩ := hsm rfl
  have HSM := Lib.hid hsm; clear hsm
  go_wp2_with fail
  refine (zzSpecsBytes_any _ _ _ _ z0 (H.out.kept0 K1.out)).mono ?_
  rintro e w2 ⟨n2, rfl, k2⟩
  have K2 := Lib.hid (K1.out.trans k2); clear k2
  by_cases hn2 : 1048576 < n2
  · go_wp2_with fail
    go_ret
    exact ⟨rfl, K2.out.below (Nat.le_refl _) (by simp)⟩
  go_wp2_with fail
  refine (zzIntIs64_any _).mono ?_
  rintro e w2' ⟨rfl, rfl⟩
  by_cases h0 : len0 = 0
  · subst h0
    go_wp2_with fail
    go_ret
    exact ⟨rfl, K2.out.below (Nat.le_refl _) (by simp)⟩
  have h0' : ((len0 : Int) == 0) = false := by simpa using h0
  go_wp2_with fail
  refine (zzSpecsOK_any _ _ _ _ z0 (H.out.kept0 K2.out)).mono ?_
  rintro e w3 ⟨b, rfl, k3, hgd⟩
  have K3 := Lib.hid (K2.out.trans k3); clear k3
  cases b
  · clear hgd
    go_wp2_with fail
    go_ret
    exact ⟨rfl, K3.out.below (Nat.le_refl _) (by simp)⟩
  have HGD := Lib.hid (hgd rfl); clear hgd
  have hpos : 0 < len0 := by omega
  have HPOS : Hid (0 < z0.length) := Lib.hid (by rw [HDL.out]; exact hpos)
  go_wp2_with fail
  refine (zzBuildSpec_any _ _ _ _ z0 (H.out.kept0 K3.out) hlen hpos HGD.out HSM.out).mono ?_
  intro e w4 hch
  obtain ⟨va, vn, vc, ca, cm, cc, po, x, rfl, k4, hsp⟩ := spc_of hch HPOS.out (by rw [HDL.out]; exact hlen) HGD.out HSM.out
  have K4 := Lib.hid (K3.out.trans k4); clear hch
  have hbs := K3.out.size
  unfold lvlOf at hsp ⊢
  have hsp4 : Spc (w4.alloc (.cells #[.slice va vn vc, .slice none 0 0, .slice ca cm cc, .pointer po, .iface 45 (.pointer (some ⟨x, 0, none⟩)), .string ⟨#[120]⟩, .slice none 0 0] 34)) w4.heap.size w3.heap.size z0 := hsp _ _ ((Kept.refl _ _).alloc _) (heap_alloc_new w4 _) (Nat.le_refl _)
  have HSP := Lib.hid hsp4; clear hsp hsp4 k4
  obtain ⟨B, hB⟩ : ∃ B, w3.heap.size = B := ⟨_, rfl⟩
  rw [hB] at HSP hbs
  clear hB
  go_wp2_with fail
  refine (HSP.out.ensure HSM.out).mono ?_
  rintro e w5 ⟨rfl, hb5, hsp5⟩
  have B5 := Lib.hid (((K4.out.alloc (.cells #[.slice va vn vc, .slice none 0 0, .slice ca cm cc, .pointer po, .iface 45 (.pointer (some ⟨x, 0, none⟩)), .string ⟨#[120]⟩, .slice none 0 0] 34)).below (Nat.le_refl _) (by simp)).trans (hb5.mono hbs)); clear hb5
  have HSP5 := Lib.hid hsp5; clear hsp5
  obtain ⟨S0, hS0⟩ : ∃ S0, w4.heap.size = S0 := ⟨_, rfl⟩
  rw [hS0] at HSP5 ⊢
  clear hS0 HSP
  have hsz := B5.out.size
  go_wp2_with fail
  refine (zzSpecsNoEmptyParagraph_any _ _ _ _ z0 (H.out.below B5.out (Nat.le_refl _))).mono ?_
  rintro e w6 ⟨bn, rfl, k6, hno⟩
  have K6 := Lib.hid k6; clear k6
  have HNO := Lib.hid hno; clear hno
  have hcl : ∀ s ∈ z0.map ensSp, endsC s.f = true ∧ ∀ d ∈ s.ifs, endsC d = true := fun s hs => by
    obtain ⟨t, _, rfl⟩ := List.mem_map.1 hs
    refine ⟨ensE_ends _, fun d hd => ?_⟩
    obtain ⟨d', _, rfl⟩ := List.mem_map.1 hd
    exact ensE_ends _
  have HCL := Lib.hid hcl; clear hcl
  have hlm : (z0.map ensSp).length = len0 := by rw [List.length_map]; exact HDL.out
  have HLM := Lib.hid hlm; clear hlm
  cases bn
  · clear HNO
    have HSP6 := Lib.hid (HSP5.out.kept K6.out)
    have K8 := K6
    go_wp2_with fail
    refine (HSP6.out.snap len0 HLM.out).mono ?_
    rintro e w9 ⟨sa, sc, rfl, hrd, k9⟩
    have HRD := Lib.hid hrd; clear hrd
    have HSP9 := Lib.hid (HSP6.out.kept k9)
    have K9 := Lib.hid (K8.out.trans k9); clear k9
    go_wp2_with fail
    refine (HSP9.out.again HCL.out).mono ?_
    rintro e w10 ⟨rfl, k10⟩
    have HRD10 := Lib.hid (HRD.out.kept0 k10)
    have HSP10 := Lib.hid (HSP9.out.kept k10)
    have K10 := Lib.hid (K9.out.trans k10); clear k10
    go_wp2_with fail
    refine (HSP10.out.equals sa len0 sc HRD10.out).mono ?_
    rintro e w11 ⟨rfl, k11⟩
    have K11 := Lib.hid (K10.out.trans k11); clear k11
    go_wp2_with fail
    go_ret
    exact ⟨rfl, B5.out.trans (K11.out.below hsz (by simp))⟩
  · have hnl : specsNL (z0.map ensSp) = true := ens_nl HPOS.out HGD.out (HNO.out rfl)
    have HNL := Lib.hid hnl; clear hnl HNO
    obtain ⟨ua, un, uc, da, dm, dc, qo, y, hcells, hsay⟩ := (HSP5.out.kept K6.out).says
    have e0 := hcells 0 (by omega)
    have e1 := hcells 1 (by omega)
    have e2 := hcells 2 (by omega)
    have e3 := hcells 3 (by omega)
    have e4 := hcells 4 (by omega)
    have e5 := hcells 5 (by omega)
    have e6 := hcells 6 (by omega)
    unfold lvlOf at e0 e1 e2 e3 e4 e5 e6 hsay
    simp only [List.getElem?_cons_zero, List.getElem?_cons_succ] at e0 e1 e2 e3 e4 e5 e6
    rw [HNL.out] at hsay
    have HSAY := Lib.hid hsay; clear hsay hcells
    go_wp2_with fail
    refine (HSAY.out _ (Kept.refl _ _)).mono ?_
    rintro e w8 ⟨rfl, k8⟩
    have K8 := Lib.hid (K6.out.trans k8); clear k8
    have HSP6 := Lib.hid (HSP5.out.kept K8.out)
    clear e0 e1 e2 e3 e4 e5 e6
    go_wp2_with fail
    refine (HSP6.out.snap len0 HLM.out).mono ?_
    rintro e w9 ⟨sa, sc, rfl, hrd, k9⟩
    have HRD := Lib.hid hrd; clear hrd
    have HSP9 := Lib.hid (HSP6.out.kept k9)
    have K9 := Lib.hid (K8.out.trans k9); clear k9
    go_wp2_with fail
    refine (HSP9.out.again HCL.out).mono ?_
    rintro e w10 ⟨rfl, k10⟩
    have HRD10 := Lib.hid (HRD.out.kept0 k10)
    have HSP10 := Lib.hid (HSP9.out.kept k10)
    have K10 := Lib.hid (K9.out.trans k10); clear k10
    go_wp2_with fail
    refine (HSP10.out.equals sa len0 sc HRD10.out).mono ?_
    rintro e w11 ⟨rfl, k11⟩
    have K11 := Lib.hid (K10.out.trans k11); clear k11
    go_wp2_with fail
    go_ret
    exact ⟨rfl, B5.out.trans (K11.out.below hsz (by simp))⟩
end fnEnsureSpecExpandedIsFixedAndReadsExpanded
end Go.Proofs.YtgpefdmgcigajaaFmt
