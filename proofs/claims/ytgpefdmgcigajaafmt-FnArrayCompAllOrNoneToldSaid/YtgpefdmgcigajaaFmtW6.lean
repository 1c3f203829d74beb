/- The walk of the law FnArrayCompAllOrNone: it returns true at every body, list of levels and close fodder, and writes nothing that was there. -/
import Derived.Test.YtgpefdmgcigajaaFmtZB
import Derived.Test.YtgpefdmgcigajaaFmtAb
import Derived.Test.YtgpefdmgcigajaaFmtAsk
namespace Go.Proofs.YtgpefdmgcigajaaFmt
open Go.ChangeShapes Go.WideShapes Go.ChangeAt Go.RowKit

namespace fnArrayCompAllOrNone
set_option maxRecDepth 100000 in
set_option maxHeartbeats 8000000 in
theorem walk (a0 : Option Addr) (len0 cap0 : Nat) (z0 : List ZE) (a1 : Option Addr) (len1 cap1 : Nat) (z1 : List SE) (a2 : Option Addr) (len2 cap2 : Nat) (z2 : List ZE) (w : World) (w0 : RdZ w a0 len0 cap0 z0) (w1 : RdS w a1 len1 cap1 z1) (w2 : RdZ w a2 len2 cap2 z2) :
    Calls Tryf.prog 5 #[.slice a0 len0 cap0, .slice a1 len1 cap1, .slice a2 len2 cap2] w fun e w' => e = .returned (.bool true) ∧ Below w.heap.size w w' := by
  have hle0 := w0.le
  have htop0 := w0.top
  have hdl0 := w0.len
  have hle1 := w1.le
  have htop1 := w1.top
  have hdl1 := w1.len
  have hle2 := w2.le
  have htop2 := w2.top
  have hdl2 := w2.len
  unfold maxLen at htop0 htop1 htop2
  have L0 := Lib.hid hdl0; clear hdl0
  have L1 := Lib.hid hdl1; clear hdl1
  have L2 := Lib.hid hdl2; clear hdl2
  have H0 := Lib.hid w0; clear w0
  have H1 := Lib.hid w1; clear w1
  have H2 := Lib.hid w2; clear w2
  go_enter Tryf.func5, Tryf.ntmps5
  go_wp2_with fail
  refine (zzBytes_FnArrayCompAllOrNone_any _ _ _ _ _ _ _ z1 _ _ _ (by omega) H1.out (by omega)).mono ?_
  rintro e wa ⟨b, rfl, k1, hsm⟩
  have KA := Lib.hid k1; clear k1
  cases b
  · clear hsm
    go_wp2_with fail
    go_ret
    exact ⟨rfl, KA.out.below (Nat.le_refl _) (by simp)⟩
  obtain ⟨hlen0, ⟨hlen1, hsm⟩, hlen2⟩ := hsm rfl
  have HSM := Lib.hid hsm; clear hsm
  go_wp2_with fail
  refine (zzElsBytes_any _ _ _ _ z0 (H0.out.kept0 KA.out)).mono ?_
  rintro e wb ⟨n1, rfl, k2⟩
  have KB := Lib.hid (KA.out.trans k2); clear k2
  go_wp2_with fail
  refine (zzSpecsBytes_any _ _ _ _ z1 (H1.out.kept0 KB.out)).mono ?_
  rintro e wc ⟨n2, rfl, k2⟩
  have KC := Lib.hid (KB.out.trans k2); clear k2
  go_wp2_with fail
  refine (zzElsBytes_any _ _ _ _ z2 (H2.out.kept0 KC.out)).mono ?_
  rintro e wd ⟨n3, rfl, k2⟩
  have KD := Lib.hid (KC.out.trans k2); clear k2
  obtain ⟨S, hS⟩ : ∃ S, wrap64 (wrap64 (n1 + n2) + n3) = S := ⟨_, rfl⟩
  by_cases hn2 : 1048576 < S
  · go_wp2_with fail
    go_ret
    exact ⟨rfl, KD.out.below (Nat.le_refl _) (by simp)⟩
  go_wp2_with fail
  clear hS
  refine (zzIntIs64_any _).mono ?_
  rintro e wd' ⟨rfl, rfl⟩
  by_cases h0 : len1 = 0
  · subst h0
    go_wp2_with fail
    go_ret
    exact ⟨rfl, KD.out.below (Nat.le_refl _) (by simp)⟩
  have h0' : ((len1 : Int) == 0) = false := by simpa using h0
  go_wp2_with fail
  refine (zzElsOK_any _ _ _ _ z0 (H0.out.kept0 KD.out)).mono ?_
  rintro e we ⟨b, rfl, k3, hgd⟩
  have KE := Lib.hid (KD.out.trans k3); clear k3
  cases b
  · clear hgd
    go_wp2_with fail
    go_ret
    exact ⟨rfl, KE.out.below (Nat.le_refl _) (by simp)⟩
  have G0 := Lib.hid (hgd rfl); clear hgd
  go_wp2_with fail
  refine (zzSpecsOK_any _ _ _ _ z1 (H1.out.kept0 KE.out)).mono ?_
  rintro e wf ⟨b, rfl, k3, hgd⟩
  have KF := Lib.hid (KE.out.trans k3); clear k3
  cases b
  · clear hgd
    go_wp2_with fail
    go_ret
    exact ⟨rfl, KF.out.below (Nat.le_refl _) (by simp)⟩
  have G1 := Lib.hid (hgd rfl); clear hgd
  go_wp2_with fail
  refine (zzElsOK_any _ _ _ _ z2 (H2.out.kept0 KF.out)).mono ?_
  rintro e wg ⟨b, rfl, k3, hgd⟩
  have KG := Lib.hid (KF.out.trans k3); clear k3
  cases b
  · clear hgd
    go_wp2_with fail
    go_ret
    exact ⟨rfl, KG.out.below (Nat.le_refl _) (by simp)⟩
  have G2 := Lib.hid (hgd rfl); clear hgd
  have hpos : 0 < len1 := by omega
  go_wp2_with fail
  refine (zzBuild_any _ _ _ _ z0 (H0.out.kept0 KG.out) G0.out hlen0).mono ?_
  rintro e wh ⟨u1, m1, rfl, f1, c1, kgh⟩
  obtain ⟨ba, bn, bc, rfl⟩ := f1.isSlice
  have F1 := Lib.hid f1; clear f1
  have C1 := Lib.hid c1; clear c1
  have KGH := Lib.hid kgh; clear kgh
  go_wp2_with fail
  refine (zzBuildSpec_any _ _ _ _ z1 (H1.out.kept0 (KG.out.trans KGH.out)) hlen1 hpos G1.out HSM.out).mono ?_
  intro e wi hch
  obtain ⟨va, vn, vc, ca, cm, cc, po, x, rfl, khi⟩ : ∃ va vn vc ca cm cc po x, e = .returned (.agg (lvlOf va vn vc ca cm cc po x)) ∧ Kept [] wh wi := by
    obtain ⟨P, v, l, e1, hr, _, k⟩ := hch
    obtain ⟨va, vn, vc, po, _, _, e2⟩ := lvl_of hr (z1.length - 1) (by rw [L1.out]; omega)
    exact ⟨va, vn, vc, _, _, _, po, _, by rw [e1, e2], k⟩
  have HCH := Lib.hid hch; clear hch
  have KHI := Lib.hid khi; clear khi
  unfold lvlOf
  go_wp2_with fail
  refine (zzBuild_any _ _ _ _ z2 (H2.out.kept0 ((KG.out.trans KGH.out).trans KHI.out)) G2.out hlen2).mono ?_
  rintro e wj ⟨u2, m2, rfl, f2, c2, kij⟩
  obtain ⟨ka, kn, kc, rfl⟩ := f2.isSlice
  have F2 := Lib.hid f2; clear f2
  have C2 := Lib.hid c2; clear c2
  have KIJ := Lib.hid kij; clear kij
  have hnew := newArrayComp_any wj ba bn bc va vn vc ca cm cc po x ka kn kc
  unfold lvlOf at hnew
  have HNEW := Lib.hid hnew; clear hnew
  go_wp2_with fail
  refine HNEW.out.mono ?_
  rintro e wk ⟨nb, lb, rfl, hnb, hlb, kjk, hb1, hb2⟩
  obtain ⟨_, _, _, _, _, _, _, _, e1, -, hard⟩ := ard_of KGH.out F1.out C1.out HCH.out KIJ.out F2.out C2.out (by rw [L1.out]; exact hpos) (by rw [L1.out]; exact hlen1) G1.out HSM.out G0.out G2.out (by rw [L0.out]; exact hlen0) (by rw [L2.out]; exact hlen2)
  have e1' := e1
  unfold lvlOf at e1'
  injection e1' with e1'
  injection e1' with e1'
  simp only [Array.mk.injEq, List.cons.injEq, Value.slice.injEq, Value.pointer.injEq, Value.iface.injEq, true_and, and_true, Option.some.injEq, Addr.mk.injEq] at e1'
  obtain ⟨⟨rfl, rfl, rfl⟩, ⟨rfl, rfl, rfl⟩, rfl, rfl⟩ := e1'
  have ha := hard wk nb lb kjk hnb hlb hb1 hb2
  have HA := Lib.hid ha; clear ha hard e1 hb1 hb2 HNEW HCH
  have KK := Lib.hid ((((KG.out.trans KGH.out).trans KHI.out).trans KIJ.out).trans kjk); clear kjk
  have hbs := KG.out.size
  obtain ⟨BS, hBS⟩ : ∃ BS, wg.heap.size = BS := ⟨_, rfl⟩
  rw [hBS] at HA hbs
  clear hBS hnb hlb
  go_wp2_with fail
  refine (HA.out.fix HSM.out (by rw [L0.out]; exact hlen0) (by rw [L2.out]; exact hlen2)).mono ?_
  rintro e wl ⟨rfl, hbl, hres⟩
  have BL := Lib.hid ((KK.out.below (Nat.le_refl _) (by simp)).trans (hbl.mono hbs)); clear hbl HA
  have HRES := Lib.hid hres; clear hres
  have hsz := BL.out.size
  have hE : ∃ zb ws zc, ARd wl BS nb lb zb ws zc ∧ ((endsC zb = true ∧ (∀ s ∈ ws, endsC s.f = true ∧ ∀ d ∈ s.ifs, endsC d = true) ∧ endsC zc = true) ∨ (hasNL zb = false ∧ specsNL ws = false ∧ hasNL zc = false)) := by
    rcases HRES.out with ⟨_, h⟩ | ⟨hno, h⟩
    · refine ⟨_, _, _, h, Or.inl ⟨ensE_ends _, fun s hs => ?_, ensE_ends _⟩⟩
      obtain ⟨t, _, rfl⟩ := List.mem_map.1 hs
      refine ⟨ensE_ends _, fun d hd => ?_⟩
      obtain ⟨d', _, rfl⟩ := List.mem_map.1 hd
      exact ensE_ends _
    · unfold arE at hno
      rw [Bool.or_eq_false_iff, Bool.or_eq_false_iff] at hno
      exact ⟨_, _, _, h, Or.inr ⟨hno.1.1, hno.1.2, hno.2⟩⟩
  obtain ⟨zb, ws, zc, hr, hx⟩ := hE
  have HR := Lib.hid hr; clear hr
  have HX := Lib.hid hx; clear hx HRES
  obtain ⟨ya, yn, yc, cy, hy⟩ := HR.out.body
  have HY := Lib.hid hy; clear hy
  go_wp2_with fail
  refine (HY.out _ (Kept.refl _ _)).mono ?_
  rintro e wm ⟨⟨pa, pn, pc⟩, rfl, hsb, klm⟩
  have HSB := Lib.hid hsb; clear hsb
  unfold Trip.val at HSB
  have KLM := Lib.hid klm; clear klm
  clear cy
  obtain ⟨qa, qn, qc, cq, hq⟩ := (HR.out.kept KLM.out).close
  have HQ := Lib.hid hq; clear hq
  dsimp only [Trip.val]
  go_wp2_with fail
  refine (HQ.out _ (Kept.refl _ _)).mono ?_
  rintro e wn ⟨⟨ra, rn, rc⟩, rfl, hsc, kmn⟩
  have HSC := Lib.hid hsc; clear hsc
  unfold Trip.val at HSC
  have KMN := Lib.hid (KLM.out.trans kmn)
  have HSB2 := Lib.hid (OwnR.kept0 HSB.out kmn); clear kmn cq
  dsimp only [Trip.val]
  have RB := Lib.hid (Snp.rdz HSB2.out)
  have RC := Lib.hid (Snp.rdz HSC.out)
  clear HSB HSB2 HSC
  go_wp2_with fail
  refine (zzEndsClean_any _ _ _ _ zb RB.out).mono ?_
  rintro e wn' ⟨rfl, rfl⟩
  obtain ⟨B1, hB1⟩ : ∃ B, endsC zb = B := ⟨_, rfl⟩
  rw [hB1]
  have HB1 := Lib.hid hB1; clear hB1
  cases B1
  · skip
    go_wp2_with fail
    refine (zzHasNewline_any _ _ _ _ zb (RB.out.kept0 (Kept.refl [] _))).mono ?_
    rintro e v1 ⟨rfl, kv1⟩
    have V1 := Lib.hid (Kept.trans (Kept.refl [] _) kv1); clear kv1
    obtain ⟨N1, hN1⟩ : ∃ B, hasNL zb = B := ⟨_, rfl⟩
    rw [hN1]
    have HN1 := Lib.hid hN1; clear hN1
    cases N1
    rotate_left
    · skip
      go_wp2_with fail
      go_ret
      exact ⟨by exfalso; rcases HX.out with h | h; exact absurd h.1 (by rw [HB1.out]; simp); exact absurd h.1 (by rw [HN1.out]; simp), BL.out.trans ((KMN.out.trans V1.out).below hsz (by simp))⟩
    go_wp2_with fail
    refine (((HR.out.kept (KMN.out.trans V1.out)).asks).2).mono ?_
    rintro e v2 ⟨b2, rfl, kv2, hb2⟩
    have V2 := Lib.hid (V1.out.trans kv2); clear kv2
    have HB2 := Lib.hid hb2; clear hb2
    cases b2
    · skip
      go_wp2_with fail
      go_ret
      exact ⟨by exfalso; rcases HX.out with h | h; exact absurd h.1 (by rw [HB1.out]; simp); exact absurd (HB2.out h.2.1) (by simp), BL.out.trans ((KMN.out.trans V2.out).below hsz (by simp))⟩
    go_wp2_with fail
    refine (zzHasNewline_any _ _ _ _ zc (RC.out.kept0 V2.out)).mono ?_
    rintro e v3 ⟨rfl, kv3⟩
    have V3 := Lib.hid (V2.out.trans kv3); clear kv3
    obtain ⟨N3, hN3⟩ : ∃ B, hasNL zc = B := ⟨_, rfl⟩
    rw [hN3]
    have HN3 := Lib.hid hN3; clear hN3
    cases N3
    rotate_left
    · skip
      go_wp2_with fail
      go_ret
      exact ⟨by exfalso; rcases HX.out with h | h; exact absurd h.1 (by rw [HB1.out]; simp); exact absurd h.2.2 (by rw [HN3.out]; simp), BL.out.trans ((KMN.out.trans V3.out).below hsz (by simp))⟩
    go_wp2_with fail
    go_ret
    exact ⟨rfl, BL.out.trans ((KMN.out.trans V3.out).below hsz (by simp))⟩
  go_wp2_with fail
  refine (((HR.out.kept KMN.out).asks).1).mono ?_
  rintro e wo ⟨b4, rfl, k4, hb4⟩
  have K4 := Lib.hid k4; clear k4
  have HB4 := Lib.hid hb4; clear hb4
  cases b4
  · skip
    go_wp2_with fail
    refine (zzHasNewline_any _ _ _ _ zb (RB.out.kept0 K4.out)).mono ?_
    rintro e v1 ⟨rfl, kv1⟩
    have V1 := Lib.hid (Kept.trans K4.out kv1); clear kv1
    obtain ⟨N1, hN1⟩ : ∃ B, hasNL zb = B := ⟨_, rfl⟩
    rw [hN1]
    have HN1 := Lib.hid hN1; clear hN1
    cases N1
    rotate_left
    · skip
      go_wp2_with fail
      go_ret
      exact ⟨by exfalso; rcases HX.out with h | h; exact absurd (HB4.out h.2.1) (by simp); exact absurd h.1 (by rw [HN1.out]; simp), BL.out.trans ((KMN.out.trans V1.out).below hsz (by simp))⟩
    go_wp2_with fail
    refine (((HR.out.kept (KMN.out.trans V1.out)).asks).2).mono ?_
    rintro e v2 ⟨b2, rfl, kv2, hb2⟩
    have V2 := Lib.hid (V1.out.trans kv2); clear kv2
    have HB2 := Lib.hid hb2; clear hb2
    cases b2
    · skip
      go_wp2_with fail
      go_ret
      exact ⟨by exfalso; rcases HX.out with h | h; exact absurd (HB4.out h.2.1) (by simp); exact absurd (HB2.out h.2.1) (by simp), BL.out.trans ((KMN.out.trans V2.out).below hsz (by simp))⟩
    go_wp2_with fail
    refine (zzHasNewline_any _ _ _ _ zc (RC.out.kept0 V2.out)).mono ?_
    rintro e v3 ⟨rfl, kv3⟩
    have V3 := Lib.hid (V2.out.trans kv3); clear kv3
    obtain ⟨N3, hN3⟩ : ∃ B, hasNL zc = B := ⟨_, rfl⟩
    rw [hN3]
    have HN3 := Lib.hid hN3; clear hN3
    cases N3
    rotate_left
    · skip
      go_wp2_with fail
      go_ret
      exact ⟨by exfalso; rcases HX.out with h | h; exact absurd (HB4.out h.2.1) (by simp); exact absurd h.2.2 (by rw [HN3.out]; simp), BL.out.trans ((KMN.out.trans V3.out).below hsz (by simp))⟩
    go_wp2_with fail
    go_ret
    exact ⟨rfl, BL.out.trans ((KMN.out.trans V3.out).below hsz (by simp))⟩
  go_wp2_with fail
  refine (zzEndsClean_any _ _ _ _ zc (RC.out.kept0 K4.out)).mono ?_
  rintro e wo' ⟨rfl, rfl⟩
  obtain ⟨B5, hB5⟩ : ∃ B, endsC zc = B := ⟨_, rfl⟩
  rw [hB5]
  have HB5 := Lib.hid hB5; clear hB5
  cases B5
  · skip
    go_wp2_with fail
    refine (zzHasNewline_any _ _ _ _ zb (RB.out.kept0 K4.out)).mono ?_
    rintro e v1 ⟨rfl, kv1⟩
    have V1 := Lib.hid (Kept.trans K4.out kv1); clear kv1
    obtain ⟨N1, hN1⟩ : ∃ B, hasNL zb = B := ⟨_, rfl⟩
    rw [hN1]
    have HN1 := Lib.hid hN1; clear hN1
    cases N1
    rotate_left
    · skip
      go_wp2_with fail
      go_ret
      exact ⟨by exfalso; rcases HX.out with h | h; exact absurd h.2.2 (by rw [HB5.out]; simp); exact absurd h.1 (by rw [HN1.out]; simp), BL.out.trans ((KMN.out.trans V1.out).below hsz (by simp))⟩
    go_wp2_with fail
    refine (((HR.out.kept (KMN.out.trans V1.out)).asks).2).mono ?_
    rintro e v2 ⟨b2, rfl, kv2, hb2⟩
    have V2 := Lib.hid (V1.out.trans kv2); clear kv2
    have HB2 := Lib.hid hb2; clear hb2
    cases b2
    · skip
      go_wp2_with fail
      go_ret
      exact ⟨by exfalso; rcases HX.out with h | h; exact absurd h.2.2 (by rw [HB5.out]; simp); exact absurd (HB2.out h.2.1) (by simp), BL.out.trans ((KMN.out.trans V2.out).below hsz (by simp))⟩
    go_wp2_with fail
    refine (zzHasNewline_any _ _ _ _ zc (RC.out.kept0 V2.out)).mono ?_
    rintro e v3 ⟨rfl, kv3⟩
    have V3 := Lib.hid (V2.out.trans kv3); clear kv3
    obtain ⟨N3, hN3⟩ : ∃ B, hasNL zc = B := ⟨_, rfl⟩
    rw [hN3]
    have HN3 := Lib.hid hN3; clear hN3
    cases N3
    rotate_left
    · skip
      go_wp2_with fail
      go_ret
      exact ⟨by exfalso; rcases HX.out with h | h; exact absurd h.2.2 (by rw [HB5.out]; simp); exact absurd h.2.2 (by rw [HN3.out]; simp), BL.out.trans ((KMN.out.trans V3.out).below hsz (by simp))⟩
    go_wp2_with fail
    go_ret
    exact ⟨rfl, BL.out.trans ((KMN.out.trans V3.out).below hsz (by simp))⟩
  go_wp2_with fail
  refine (zzHasNewline_any _ _ _ _ zb (RB.out.kept0 K4.out)).mono ?_
  rintro e v1 ⟨rfl, kv1⟩
  have V1 := Lib.hid (Kept.trans K4.out kv1); clear kv1
  obtain ⟨N1, hN1⟩ : ∃ B, hasNL zb = B := ⟨_, rfl⟩
  rw [hN1]
  have HN1 := Lib.hid hN1; clear hN1
  cases N1
  rotate_left
  · skip
    go_wp2_with fail
    go_ret
    exact ⟨rfl, BL.out.trans ((KMN.out.trans V1.out).below hsz (by simp))⟩
  go_wp2_with fail
  refine (((HR.out.kept (KMN.out.trans V1.out)).asks).2).mono ?_
  rintro e v2 ⟨b2, rfl, kv2, hb2⟩
  have V2 := Lib.hid (V1.out.trans kv2); clear kv2
  have HB2 := Lib.hid hb2; clear hb2
  cases b2
  · skip
    go_wp2_with fail
    go_ret
    exact ⟨rfl, BL.out.trans ((KMN.out.trans V2.out).below hsz (by simp))⟩
  go_wp2_with fail
  refine (zzHasNewline_any _ _ _ _ zc (RC.out.kept0 V2.out)).mono ?_
  rintro e v3 ⟨rfl, kv3⟩
  have V3 := Lib.hid (V2.out.trans kv3); clear kv3
  obtain ⟨N3, hN3⟩ : ∃ B, hasNL zc = B := ⟨_, rfl⟩
  rw [hN3]
  have HN3 := Lib.hid hN3; clear hN3
  cases N3
  rotate_left
  · skip
    go_wp2_with fail
    go_ret
    exact ⟨rfl, BL.out.trans ((KMN.out.trans V3.out).below hsz (by simp))⟩
  go_wp2_with fail
  go_ret
  exact ⟨rfl, BL.out.trans ((KMN.out.trans V3.out).below hsz (by simp))⟩
end fnArrayCompAllOrNone
end Go.Proofs.YtgpefdmgcigajaaFmt
