/- The walk of the law FnArrayCompMatchesModel: it returns true at every body, list of levels and close fodder, and writes nothing that was there. -/
import Derived.Test.YtgpefdmgcigajaaFmtZB
import Derived.Test.YtgpefdmgcigajaaFmtAb
namespace Go.Proofs.YtgpefdmgcigajaaFmt
open Go.ChangeShapes Go.WideShapes Go.ChangeAt Go.RowKit

namespace fnArrayCompMatchesModel
set_option maxRecDepth 100000 in
set_option maxHeartbeats 8000000 in
theorem walk (a0 : Option Addr) (len0 cap0 : Nat) (z0 : List ZE) (a1 : Option Addr) (len1 cap1 : Nat) (z1 : List SE) (a2 : Option Addr) (len2 cap2 : Nat) (z2 : List ZE) (w : World) (w0 : RdZ w a0 len0 cap0 z0) (w1 : RdS w a1 len1 cap1 z1) (w2 : RdZ w a2 len2 cap2 z2) :
    Calls Tryf.prog 8 #[.slice a0 len0 cap0, .slice a1 len1 cap1, .slice a2 len2 cap2] w fun e w' => e = .returned (.bool true) ∧ Below w.heap.size w w' := by
  have hle0 := w0.le
  have htop0 := w0.top
  have hdl0 := w0.len
  have hle1 := w1.le
  have htop1 := w1.top
  have hdl1 := w1.len
  have hle2 := w2.le
  have htop2 := w2.top
  have hdl2 := w2.len
  unfold maxLen at htop0 htop1 htop2
  have L0 := Lib.hid hdl0; clear hdl0
  have L1 := Lib.hid hdl1; clear hdl1
  have L2 := Lib.hid hdl2; clear hdl2
  have H0 := Lib.hid w0; clear w0
  have H1 := Lib.hid w1; clear w1
  have H2 := Lib.hid w2; clear w2
  go_enter Tryf.func8, Tryf.ntmps8
  go_wp2_with fail
  refine (zzBytes_FnArrayCompMatchesModel_any _ _ _ _ _ _ _ z1 _ _ _ (by omega) H1.out (by omega)).mono ?_
  rintro e wa ⟨b, rfl, k1, hsm⟩
  have KA := Lib.hid k1; clear k1
  cases b
  · clear hsm
    go_wp2_with fail
    go_ret
    exact ⟨rfl, KA.out.below (Nat.le_refl _) (by simp)⟩
  obtain ⟨hlen0, ⟨hlen1, hsm⟩, hlen2⟩ := hsm rfl
  have HSM := Lib.hid hsm; clear hsm
  go_wp2_with fail
  refine (zzElsBytes_any _ _ _ _ z0 (H0.out.kept0 KA.out)).mono ?_
  rintro e wb ⟨n1, rfl, k2⟩
  have KB := Lib.hid (KA.out.trans k2); clear k2
  go_wp2_with fail
  refine (zzSpecsBytes_any _ _ _ _ z1 (H1.out.kept0 KB.out)).mono ?_
  rintro e wc ⟨n2, rfl, k2⟩
  have KC := Lib.hid (KB.out.trans k2); clear k2
  go_wp2_with fail
  refine (zzElsBytes_any _ _ _ _ z2 (H2.out.kept0 KC.out)).mono ?_
  rintro e wd ⟨n3, rfl, k2⟩
  have KD := Lib.hid (KC.out.trans k2); clear k2
  obtain ⟨S, hS⟩ : ∃ S, wrap64 (wrap64 (n1 + n2) + n3) = S := ⟨_, rfl⟩
  by_cases hn2 : 1048576 < S
  · go_wp2_with fail
    go_ret
    exact ⟨rfl, KD.out.below (Nat.le_refl _) (by simp)⟩
  go_wp2_with fail
  clear hS
  refine (zzIntIs64_any _).mono ?_
  rintro e wd' ⟨rfl, rfl⟩
  by_cases h0 : len1 = 0
  · subst h0
    go_wp2_with fail
    go_ret
    exact ⟨rfl, KD.out.below (Nat.le_refl _) (by simp)⟩
  have h0' : ((len1 : Int) == 0) = false := by simpa using h0
  go_wp2_with fail
  refine (zzElsOK_any _ _ _ _ z0 (H0.out.kept0 KD.out)).mono ?_
  rintro e we ⟨b, rfl, k3, hgd⟩
  have KE := Lib.hid (KD.out.trans k3); clear k3
  cases b
  · clear hgd
    go_wp2_with fail
    go_ret
    exact ⟨rfl, KE.out.below (Nat.le_refl _) (by simp)⟩
  have G0 := Lib.hid (hgd rfl); clear hgd
  go_wp2_with fail
  refine (zzSpecsOK_any _ _ _ _ z1 (H1.out.kept0 KE.out)).mono ?_
  rintro e wf ⟨b, rfl, k3, hgd⟩
  have KF := Lib.hid (KE.out.trans k3); clear k3
  cases b
  · clear hgd
    go_wp2_with fail
    go_ret
    exact ⟨rfl, KF.out.below (Nat.le_refl _) (by simp)⟩
  have G1 := Lib.hid (hgd rfl); clear hgd
  go_wp2_with fail
  refine (zzElsOK_any _ _ _ _ z2 (H2.out.kept0 KF.out)).mono ?_
  rintro e wg ⟨b, rfl, k3, hgd⟩
  have KG := Lib.hid (KF.out.trans k3); clear k3
  cases b
  · clear hgd
    go_wp2_with fail
    go_ret
    exact ⟨rfl, KG.out.below (Nat.le_refl _) (by simp)⟩
  have G2 := Lib.hid (hgd rfl); clear hgd
  have hpos : 0 < len1 := by omega
  go_wp2_with fail
  refine (zzBuild_any _ _ _ _ z0 (H0.out.kept0 KG.out) G0.out hlen0).mono ?_
  rintro e wh ⟨u1, m1, rfl, f1, c1, kgh⟩
  obtain ⟨ba, bn, bc, rfl⟩ := f1.isSlice
  have F1 := Lib.hid f1; clear f1
  have C1 := Lib.hid c1; clear c1
  have KGH := Lib.hid kgh; clear kgh
  go_wp2_with fail
  refine (zzBuildSpec_any _ _ _ _ z1 (H1.out.kept0 (KG.out.trans KGH.out)) hlen1 hpos G1.out HSM.out).mono ?_
  intro e wi hch
  obtain ⟨va, vn, vc, ca, cm, cc, po, x, rfl, khi⟩ : ∃ va vn vc ca cm cc po x, e = .returned (.agg (lvlOf va vn vc ca cm cc po x)) ∧ Kept [] wh wi := by
    obtain ⟨P, v, l, e1, hr, _, k⟩ := hch
    obtain ⟨va, vn, vc, po, _, _, e2⟩ := lvl_of hr (z1.length - 1) (by rw [L1.out]; omega)
    exact ⟨va, vn, vc, _, _, _, po, _, by rw [e1, e2], k⟩
  have HCH := Lib.hid hch; clear hch
  have KHI := Lib.hid khi; clear khi
  unfold lvlOf
  go_wp2_with fail
  refine (zzBuild_any _ _ _ _ z2 (H2.out.kept0 ((KG.out.trans KGH.out).trans KHI.out)) G2.out hlen2).mono ?_
  rintro e wj ⟨u2, m2, rfl, f2, c2, kij⟩
  obtain ⟨ka, kn, kc, rfl⟩ := f2.isSlice
  have F2 := Lib.hid f2; clear f2
  have C2 := Lib.hid c2; clear c2
  have KIJ := Lib.hid kij; clear kij
  have hnew := newArrayComp_any wj ba bn bc va vn vc ca cm cc po x ka kn kc
  unfold lvlOf at hnew
  have HNEW := Lib.hid hnew; clear hnew
  go_wp2_with fail
  refine HNEW.out.mono ?_
  rintro e wk ⟨nb, lb, rfl, hnb, hlb, kjk, hb1, hb2⟩
  obtain ⟨_, _, _, _, _, _, _, _, e1, -, hard⟩ := ard_of KGH.out F1.out C1.out HCH.out KIJ.out F2.out C2.out (by rw [L1.out]; exact hpos) (by rw [L1.out]; exact hlen1) G1.out HSM.out G0.out G2.out (by rw [L0.out]; exact hlen0) (by rw [L2.out]; exact hlen2)
  have e1' := e1
  unfold lvlOf at e1'
  injection e1' with e1'
  injection e1' with e1'
  simp only [Array.mk.injEq, List.cons.injEq, Value.slice.injEq, Value.pointer.injEq, Value.iface.injEq, true_and, and_true, Option.some.injEq, Addr.mk.injEq] at e1'
  obtain ⟨⟨rfl, rfl, rfl⟩, ⟨rfl, rfl, rfl⟩, rfl, rfl⟩ := e1'
  have ha := hard wk nb lb kjk hnb hlb hb1 hb2
  have HA := Lib.hid ha; clear ha hard e1 hb1 hb2 HNEW HCH
  have KK := Lib.hid ((((KG.out.trans KGH.out).trans KHI.out).trans KIJ.out).trans kjk); clear kjk
  have hbs := KG.out.size
  obtain ⟨BS, hBS⟩ : ∃ BS, wg.heap.size = BS := ⟨_, rfl⟩
  rw [hBS] at HA hbs
  clear hBS hnb hlb
  go_wp2_with fail
  refine (HA.out.fix HSM.out (by rw [L0.out]; exact hlen0) (by rw [L2.out]; exact hlen2)).mono ?_
  rintro e wl ⟨rfl, hbl, hres⟩
  have BL := Lib.hid ((KK.out.below (Nat.le_refl _) (by simp)).trans (hbl.mono hbs)); clear hbl HA
  have HRES := Lib.hid hres; clear hres
  have hsz := BL.out.size
  go_wp2_with fail
  refine (zzHasNewline_any _ _ _ _ z0 (H0.out.below BL.out (Nat.le_refl _))).mono ?_
  rintro e v1 ⟨rfl, kv⟩
  have V1 := Lib.hid kv; clear kv
  obtain ⟨N1, hN1⟩ : ∃ B, hasNL z0 = B := ⟨_, rfl⟩
  rw [hN1]
  have HN1 := Lib.hid hN1; clear hN1
  cases N1
  rotate_left
  · skip
    have hr : ARd wl BS nb lb (ensE z0) (z1.map ensSp) (ensE z2) := by
      rcases HRES.out with ⟨_, h⟩ | ⟨h, _⟩
      · exact h
      · unfold arE at h; rw [HN1.out] at h; simp at h
    have HR := Lib.hid hr; clear hr HRES
    go_wp2_with fail
    refine (zzEnsured_any _ _ _ _ z0 ((H0.out.below BL.out (Nat.le_refl _)).kept0 V1.out) hlen0).mono ?_
    rintro e x1 ⟨⟨ea, en, ec⟩, rfl, hs1, kx⟩
    unfold Trip.val at hs1
    dsimp only [Trip.val]
    have X1 := Lib.hid (V1.out.trans kx)
    have S1 := Lib.hid (Snp.rdz hs1); clear hs1 kx
    go_wp2_with fail
    refine (zzSpecsEnsured_any _ _ _ _ z1 ((H1.out.below BL.out (Nat.le_refl _)).kept0 X1.out) hlen1 HSM.out).mono ?_
    rintro e x2 ⟨⟨ga, gn, gc⟩, rfl, hs2, kx⟩
    unfold Trip.val at hs2
    dsimp only [Trip.val]
    have X2 := Lib.hid (X1.out.trans kx)
    have S1b := Lib.hid (S1.out.kept0 kx)
    have S2 := Lib.hid (SpsO.rds hs2); clear hs2 kx S1
    go_wp2_with fail
    refine (zzEnsured_any _ _ _ _ z2 ((H2.out.below BL.out (Nat.le_refl _)).kept0 X2.out) hlen2).mono ?_
    rintro e x3 ⟨⟨ja, jn, jc⟩, rfl, hs3, kx⟩
    unfold Trip.val at hs3
    dsimp only [Trip.val]
    have X3 := Lib.hid (X2.out.trans kx)
    have S1c := Lib.hid (S1b.out.kept0 kx)
    have S2c := Lib.hid (S2.out.kept0 kx)
    have S3 := Lib.hid (Snp.rdz hs3); clear hs3 kx S1b S2
    obtain ⟨ya, yn, yc, cy, hy⟩ := (HR.out.kept X3.out).body
    have HY := Lib.hid hy; clear hy
    go_wp2_with fail
    refine (HY.out _ (Kept.refl _ _)).mono ?_
    rintro e y1 ⟨⟨pa, pn, pc⟩, rfl, hsb, ky⟩
    have HSB := Lib.hid hsb; clear hsb
    unfold Trip.val at HSB
    have Y1 := Lib.hid ky; clear ky cy HY
    dsimp only [Trip.val]
    go_wp2_with fail
    refine (zzElsEqual_same _ _ _ _ _ _ _ (ensE z0) (Snp.rdz HSB.out) (S1c.out.kept0 Y1.out)).mono ?_
    rintro e y2 ⟨rfl, ky⟩
    have Y2 := Lib.hid (Y1.out.trans ky); clear ky HSB
    go_wp2_with fail
    refine ((HR.out.kept (X3.out.trans Y2.out)).equals _ _ _ (S2c.out.kept0 Y2.out)).mono ?_
    rintro e y3 ⟨rfl, ky⟩
    have Y3 := Lib.hid (Y2.out.trans ky); clear ky
    obtain ⟨qa, qn, qc, cq, hq⟩ := (HR.out.kept (X3.out.trans Y3.out)).close
    have HQ := Lib.hid hq; clear hq
    go_wp2_with fail
    refine (HQ.out _ (Kept.refl _ _)).mono ?_
    rintro e y4 ⟨⟨ra, rn, rc⟩, rfl, hsc, ky⟩
    have HSC := Lib.hid hsc; clear hsc
    unfold Trip.val at HSC
    have Y4 := Lib.hid (Y3.out.trans ky); clear ky cq HQ
    dsimp only [Trip.val]
    go_wp2_with fail
    refine (zzElsEqual_same _ _ _ _ _ _ _ (ensE z2) (Snp.rdz HSC.out) (S3.out.kept0 Y4.out)).mono ?_
    rintro e y5 ⟨rfl, ky⟩
    have Y5 := Lib.hid (Y4.out.trans ky); clear ky HSC
    go_wp2_with fail
    go_ret
    exact ⟨rfl, BL.out.trans ((X3.out.trans Y5.out).below hsz (by simp))⟩
  go_wp2_with fail
  refine (zzSpecsHaveNewline_any _ _ _ _ z1 ((H1.out.below BL.out (Nat.le_refl _)).kept0 V1.out)).mono ?_
  rintro e v2 ⟨rfl, kv⟩
  have V2 := Lib.hid (V1.out.trans kv); clear kv
  obtain ⟨N2, hN2⟩ : ∃ B, specsNL z1 = B := ⟨_, rfl⟩
  rw [hN2]
  have HN2 := Lib.hid hN2; clear hN2
  cases N2
  rotate_left
  · skip
    have hr : ARd wl BS nb lb (ensE z0) (z1.map ensSp) (ensE z2) := by
      rcases HRES.out with ⟨_, h⟩ | ⟨h, _⟩
      · exact h
      · unfold arE at h; rw [HN1.out, HN2.out] at h; simp at h
    have HR := Lib.hid hr; clear hr HRES
    go_wp2_with fail
    refine (zzEnsured_any _ _ _ _ z0 ((H0.out.below BL.out (Nat.le_refl _)).kept0 V2.out) hlen0).mono ?_
    rintro e x1 ⟨⟨ea, en, ec⟩, rfl, hs1, kx⟩
    unfold Trip.val at hs1
    dsimp only [Trip.val]
    have X1 := Lib.hid (V2.out.trans kx)
    have S1 := Lib.hid (Snp.rdz hs1); clear hs1 kx
    go_wp2_with fail
    refine (zzSpecsEnsured_any _ _ _ _ z1 ((H1.out.below BL.out (Nat.le_refl _)).kept0 X1.out) hlen1 HSM.out).mono ?_
    rintro e x2 ⟨⟨ga, gn, gc⟩, rfl, hs2, kx⟩
    unfold Trip.val at hs2
    dsimp only [Trip.val]
    have X2 := Lib.hid (X1.out.trans kx)
    have S1b := Lib.hid (S1.out.kept0 kx)
    have S2 := Lib.hid (SpsO.rds hs2); clear hs2 kx S1
    go_wp2_with fail
    refine (zzEnsured_any _ _ _ _ z2 ((H2.out.below BL.out (Nat.le_refl _)).kept0 X2.out) hlen2).mono ?_
    rintro e x3 ⟨⟨ja, jn, jc⟩, rfl, hs3, kx⟩
    unfold Trip.val at hs3
    dsimp only [Trip.val]
    have X3 := Lib.hid (X2.out.trans kx)
    have S1c := Lib.hid (S1b.out.kept0 kx)
    have S2c := Lib.hid (S2.out.kept0 kx)
    have S3 := Lib.hid (Snp.rdz hs3); clear hs3 kx S1b S2
    obtain ⟨ya, yn, yc, cy, hy⟩ := (HR.out.kept X3.out).body
    have HY := Lib.hid hy; clear hy
    go_wp2_with fail
    refine (HY.out _ (Kept.refl _ _)).mono ?_
    rintro e y1 ⟨⟨pa, pn, pc⟩, rfl, hsb, ky⟩
    have HSB := Lib.hid hsb; clear hsb
    unfold Trip.val at HSB
    have Y1 := Lib.hid ky; clear ky cy HY
    dsimp only [Trip.val]
    go_wp2_with fail
    refine (zzElsEqual_same _ _ _ _ _ _ _ (ensE z0) (Snp.rdz HSB.out) (S1c.out.kept0 Y1.out)).mono ?_
    rintro e y2 ⟨rfl, ky⟩
    have Y2 := Lib.hid (Y1.out.trans ky); clear ky HSB
    go_wp2_with fail
    refine ((HR.out.kept (X3.out.trans Y2.out)).equals _ _ _ (S2c.out.kept0 Y2.out)).mono ?_
    rintro e y3 ⟨rfl, ky⟩
    have Y3 := Lib.hid (Y2.out.trans ky); clear ky
    obtain ⟨qa, qn, qc, cq, hq⟩ := (HR.out.kept (X3.out.trans Y3.out)).close
    have HQ := Lib.hid hq; clear hq
    go_wp2_with fail
    refine (HQ.out _ (Kept.refl _ _)).mono ?_
    rintro e y4 ⟨⟨ra, rn, rc⟩, rfl, hsc, ky⟩
    have HSC := Lib.hid hsc; clear hsc
    unfold Trip.val at HSC
    have Y4 := Lib.hid (Y3.out.trans ky); clear ky cq HQ
    dsimp only [Trip.val]
    go_wp2_with fail
    refine (zzElsEqual_same _ _ _ _ _ _ _ (ensE z2) (Snp.rdz HSC.out) (S3.out.kept0 Y4.out)).mono ?_
    rintro e y5 ⟨rfl, ky⟩
    have Y5 := Lib.hid (Y4.out.trans ky); clear ky HSC
    go_wp2_with fail
    go_ret
    exact ⟨rfl, BL.out.trans ((X3.out.trans Y5.out).below hsz (by simp))⟩
  go_wp2_with fail
  refine (zzHasNewline_any _ _ _ _ z2 ((H2.out.below BL.out (Nat.le_refl _)).kept0 V2.out)).mono ?_
  rintro e v3 ⟨rfl, kv⟩
  have V3 := Lib.hid (V2.out.trans kv); clear kv
  obtain ⟨N3, hN3⟩ : ∃ B, hasNL z2 = B := ⟨_, rfl⟩
  rw [hN3]
  have HN3 := Lib.hid hN3; clear hN3
  cases N3
  rotate_left
  · skip
    have hr : ARd wl BS nb lb (ensE z0) (z1.map ensSp) (ensE z2) := by
      rcases HRES.out with ⟨_, h⟩ | ⟨h, _⟩
      · exact h
      · unfold arE at h; rw [HN1.out, HN2.out, HN3.out] at h; simp at h
    have HR := Lib.hid hr; clear hr HRES
    go_wp2_with fail
    refine (zzEnsured_any _ _ _ _ z0 ((H0.out.below BL.out (Nat.le_refl _)).kept0 V3.out) hlen0).mono ?_
    rintro e x1 ⟨⟨ea, en, ec⟩, rfl, hs1, kx⟩
    unfold Trip.val at hs1
    dsimp only [Trip.val]
    have X1 := Lib.hid (V3.out.trans kx)
    have S1 := Lib.hid (Snp.rdz hs1); clear hs1 kx
    go_wp2_with fail
    refine (zzSpecsEnsured_any _ _ _ _ z1 ((H1.out.below BL.out (Nat.le_refl _)).kept0 X1.out) hlen1 HSM.out).mono ?_
    rintro e x2 ⟨⟨ga, gn, gc⟩, rfl, hs2, kx⟩
    unfold Trip.val at hs2
    dsimp only [Trip.val]
    have X2 := Lib.hid (X1.out.trans kx)
    have S1b := Lib.hid (S1.out.kept0 kx)
    have S2 := Lib.hid (SpsO.rds hs2); clear hs2 kx S1
    go_wp2_with fail
    refine (zzEnsured_any _ _ _ _ z2 ((H2.out.below BL.out (Nat.le_refl _)).kept0 X2.out) hlen2).mono ?_
    rintro e x3 ⟨⟨ja, jn, jc⟩, rfl, hs3, kx⟩
    unfold Trip.val at hs3
    dsimp only [Trip.val]
    have X3 := Lib.hid (X2.out.trans kx)
    have S1c := Lib.hid (S1b.out.kept0 kx)
    have S2c := Lib.hid (S2.out.kept0 kx)
    have S3 := Lib.hid (Snp.rdz hs3); clear hs3 kx S1b S2
    obtain ⟨ya, yn, yc, cy, hy⟩ := (HR.out.kept X3.out).body
    have HY := Lib.hid hy; clear hy
    go_wp2_with fail
    refine (HY.out _ (Kept.refl _ _)).mono ?_
    rintro e y1 ⟨⟨pa, pn, pc⟩, rfl, hsb, ky⟩
    have HSB := Lib.hid hsb; clear hsb
    unfold Trip.val at HSB
    have Y1 := Lib.hid ky; clear ky cy HY
    dsimp only [Trip.val]
    go_wp2_with fail
    refine (zzElsEqual_same _ _ _ _ _ _ _ (ensE z0) (Snp.rdz HSB.out) (S1c.out.kept0 Y1.out)).mono ?_
    rintro e y2 ⟨rfl, ky⟩
    have Y2 := Lib.hid (Y1.out.trans ky); clear ky HSB
    go_wp2_with fail
    refine ((HR.out.kept (X3.out.trans Y2.out)).equals _ _ _ (S2c.out.kept0 Y2.out)).mono ?_
    rintro e y3 ⟨rfl, ky⟩
    have Y3 := Lib.hid (Y2.out.trans ky); clear ky
    obtain ⟨qa, qn, qc, cq, hq⟩ := (HR.out.kept (X3.out.trans Y3.out)).close
    have HQ := Lib.hid hq; clear hq
    go_wp2_with fail
    refine (HQ.out _ (Kept.refl _ _)).mono ?_
    rintro e y4 ⟨⟨ra, rn, rc⟩, rfl, hsc, ky⟩
    have HSC := Lib.hid hsc; clear hsc
    unfold Trip.val at HSC
    have Y4 := Lib.hid (Y3.out.trans ky); clear ky cq HQ
    dsimp only [Trip.val]
    go_wp2_with fail
    refine (zzElsEqual_same _ _ _ _ _ _ _ (ensE z2) (Snp.rdz HSC.out) (S3.out.kept0 Y4.out)).mono ?_
    rintro e y5 ⟨rfl, ky⟩
    have Y5 := Lib.hid (Y4.out.trans ky); clear ky HSC
    go_wp2_with fail
    go_ret
    exact ⟨rfl, BL.out.trans ((X3.out.trans Y5.out).below hsz (by simp))⟩
  have hr : ARd wl BS nb lb z0 z1 z2 := by
    rcases HRES.out with ⟨h, _⟩ | ⟨_, h⟩
    · unfold arE at h; rw [HN1.out, HN2.out, HN3.out] at h; simp at h
    · exact h
  have HR := Lib.hid hr; clear hr HRES
  have S1 := Lib.hid ((H0.out.below BL.out (Nat.le_refl _)).kept0 V3.out)
  have S2 := Lib.hid ((H1.out.below BL.out (Nat.le_refl _)).kept0 V3.out)
  have S3 := Lib.hid ((H2.out.below BL.out (Nat.le_refl _)).kept0 V3.out)
  obtain ⟨ya, yn, yc, cy, hy⟩ := (HR.out.kept V3.out).body
  have HY := Lib.hid hy; clear hy
  go_wp2_with fail
  refine (HY.out _ (Kept.refl _ _)).mono ?_
  rintro e y1 ⟨⟨pa, pn, pc⟩, rfl, hsb, ky⟩
  have HSB := Lib.hid hsb; clear hsb
  unfold Trip.val at HSB
  have Y1 := Lib.hid ky; clear ky cy HY
  dsimp only [Trip.val]
  go_wp2_with fail
  refine (zzElsEqual_same _ _ _ _ _ _ _ z0 (Snp.rdz HSB.out) (S1.out.kept0 Y1.out)).mono ?_
  rintro e y2 ⟨rfl, ky⟩
  have Y2 := Lib.hid (Y1.out.trans ky); clear ky HSB
  go_wp2_with fail
  refine ((HR.out.kept (V3.out.trans Y2.out)).equals _ _ _ (S2.out.kept0 Y2.out)).mono ?_
  rintro e y3 ⟨rfl, ky⟩
  have Y3 := Lib.hid (Y2.out.trans ky); clear ky
  obtain ⟨qa, qn, qc, cq, hq⟩ := (HR.out.kept (V3.out.trans Y3.out)).close
  have HQ := Lib.hid hq; clear hq
  go_wp2_with fail
  refine (HQ.out _ (Kept.refl _ _)).mono ?_
  rintro e y4 ⟨⟨ra, rn, rc⟩, rfl, hsc, ky⟩
  have HSC := Lib.hid hsc; clear hsc
  unfold Trip.val at HSC
  have Y4 := Lib.hid (Y3.out.trans ky); clear ky cq HQ
  dsimp only [Trip.val]
  go_wp2_with fail
  refine (zzElsEqual_same _ _ _ _ _ _ _ z2 (Snp.rdz HSC.out) (S3.out.kept0 Y4.out)).mono ?_
  rintro e y5 ⟨rfl, ky⟩
  have Y5 := Lib.hid (Y4.out.trans ky); clear ky HSC
  go_wp2_with fail
  go_ret
  exact ⟨rfl, BL.out.trans ((V3.out.trans Y5.out).below hsz (by simp))⟩
end fnArrayCompMatchesModel
end Go.Proofs.YtgpefdmgcigajaaFmt
