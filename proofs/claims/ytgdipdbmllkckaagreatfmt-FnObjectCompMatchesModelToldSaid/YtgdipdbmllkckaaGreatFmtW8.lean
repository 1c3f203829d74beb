/- The walk of the law FnObjectCompMatchesModel: it returns true at every list of fields, list of levels and close fodder, and writes nothing that was there. -/
import Derived.Test.YtgdipdbmllkckaaGreatFmtZBF
import Derived.Test.YtgdipdbmllkckaaGreatFmtBoc
import Derived.Test.YtgdipdbmllkckaaGreatFmtEn
import Derived.Deep.RegionHeld3
namespace Go.Proofs.YtgdipdbmllkckaaGreatFmt
open Go.ChangeShapes Go.WideShapes Go.ChangeAt Go.RowKit

theorem orE_of (z0 : List FL) (z1 : List SE) (z2 : List ZE) {E0 : Bool} (h : (specsNL z1 || hasNL z2) = E0) : orE (z0.map zF) z1 z2 = (E0 || (z0.any fun s => hasNL s.op)) := by
  unfold orE
  rw [List.any_map, ← h, show ((fun z : FZ => hasNL z.2.1) ∘ zF) = fun s => hasNL s.op from rfl]
  cases (z0.any fun s => hasNL s.op) <;> cases specsNL z1 <;> cases hasNL z2 <;> rfl

namespace fnObjectCompMatchesModel
set_option maxRecDepth 100000 in
set_option maxHeartbeats 16000000 in
theorem walk (a0 : Option Addr) (len0 cap0 : Nat) (z0 : List FL) (a1 : Option Addr) (len1 cap1 : Nat) (z1 : List SE) (a2 : Option Addr) (len2 cap2 : Nat) (z2 : List ZE) (w : World) (w0 : RdF w a0 len0 cap0 z0) (w1 : RdS w a1 len1 cap1 z1) (w2 : RdZ w a2 len2 cap2 z2) :
    Calls Tryz.prog 3 #[.slice a0 len0 cap0, .slice a1 len1 cap1, .slice a2 len2 cap2] w fun e w' => e = .returned (.bool true) ∧ Below w.heap.size w w' := by
  have hle0 := w0.le
  have htop0 := w0.top
  have hdl0 := w0.len
  have hle1 := w1.le
  have htop1 := w1.top
  have hdl1 := w1.len
  have hle2 := w2.le
  have htop2 := w2.top
  have hdl2 := w2.len
  unfold maxLen at htop0 htop1 htop2
  have L0 := Lib.hid hdl0; clear hdl0
  have L1 := Lib.hid hdl1; clear hdl1
  have L2 := Lib.hid hdl2; clear hdl2
  have H0 := Lib.hid w0; clear w0
  have H1 := Lib.hid w1; clear w1
  have H2 := Lib.hid w2; clear w2
  go_enter Tryz.func3, Tryz.ntmps3
  go_wp2_with fail
  refine (zzBytes_FnObjectCompMatchesModel_any _ _ _ _ z0 _ _ _ z1 _ _ _ H0.out H1.out (by omega)).mono ?_
  rintro e wa ⟨b, rfl, k1, hsm⟩
  have KA := Lib.hid k1; clear k1
  cases b
  · clear hsm
    go_wp2_with fail
    go_ret
    exact ⟨rfl, KA.out.below (Nat.le_refl _) (by simp)⟩
  obtain ⟨⟨hlen0, hsf⟩, ⟨hlen1, hsm⟩, hlen2⟩ := hsm rfl
  have HSM := Lib.hid hsm; clear hsm
  have HSF := Lib.hid hsf; clear hsf
  go_wp2_with fail
  refine (zzFieldsBytes_any _ _ _ _ z0 (H0.out.kept0 KA.out)).mono ?_
  rintro e wb ⟨n1, rfl, k2⟩
  have KB := Lib.hid (KA.out.trans k2); clear k2
  go_wp2_with fail
  refine (zzSpecsBytes_any _ _ _ _ z1 (H1.out.kept0 KB.out)).mono ?_
  rintro e wc ⟨n2, rfl, k2⟩
  have KC := Lib.hid (KB.out.trans k2); clear k2
  go_wp2_with fail
  refine (zzElsBytes_any _ _ _ _ z2 (H2.out.kept0 KC.out)).mono ?_
  rintro e wd ⟨n3, rfl, k2⟩
  have KD := Lib.hid (KC.out.trans k2); clear k2
  obtain ⟨S, hS⟩ : ∃ S, wrap64 (wrap64 (n1 + n2) + n3) = S := ⟨_, rfl⟩
  by_cases hn2 : 1048576 < S
  · go_wp2_with fail
    go_ret
    exact ⟨rfl, KD.out.below (Nat.le_refl _) (by simp)⟩
  go_wp2_with fail
  clear hS
  refine (zzIntIs64_any _).mono ?_
  rintro e wd' ⟨rfl, rfl⟩
  by_cases h0 : len1 = 0
  · subst h0
    go_wp2_with fail
    go_ret
    exact ⟨rfl, KD.out.below (Nat.le_refl _) (by simp)⟩
  have h0' : ((len1 : Int) == 0) = false := by simpa using h0
  go_wp2_with fail
  refine (zzFieldsOK_any _ _ _ _ z0 (H0.out.kept0 KD.out)).mono ?_
  rintro e we ⟨b, rfl, k3, hgd⟩
  have KE := Lib.hid (KD.out.trans k3); clear k3
  cases b
  · clear hgd
    go_wp2_with fail
    go_ret
    exact ⟨rfl, KE.out.below (Nat.le_refl _) (by simp)⟩
  have G0 := Lib.hid (hgd rfl); clear hgd
  go_wp2_with fail
  refine (zzSpecsOK_any _ _ _ _ z1 (H1.out.kept0 KE.out)).mono ?_
  rintro e wf ⟨b, rfl, k3, hgd⟩
  have KF := Lib.hid (KE.out.trans k3); clear k3
  cases b
  · clear hgd
    go_wp2_with fail
    go_ret
    exact ⟨rfl, KF.out.below (Nat.le_refl _) (by simp)⟩
  have G1 := Lib.hid (hgd rfl); clear hgd
  go_wp2_with fail
  refine (zzElsOK_any _ _ _ _ z2 (H2.out.kept0 KF.out)).mono ?_
  rintro e wg ⟨b, rfl, k3, hgd⟩
  have KG := Lib.hid (KF.out.trans k3); clear k3
  cases b
  · clear hgd
    go_wp2_with fail
    go_ret
    exact ⟨rfl, KG.out.below (Nat.le_refl _) (by simp)⟩
  have G2 := Lib.hid (hgd rfl); clear hgd
  have hpos : 0 < len1 := by omega
  go_wp2_with fail
  refine (zzBuildObjectComp_any _ _ _ _ z0 (H0.out.kept0 KG.out) _ _ _ z1 (H1.out.kept0 KG.out) _ _ _ z2 (H2.out.kept0 KG.out) hlen0 hlen1 hpos hlen2 G0.out HSF.out G1.out HSM.out G2.out).mono ?_
  rintro e wk ⟨nb, fb, cap, la, lc, fs, rfl, hA, hL, kk⟩
  have hbs := KG.out.size
  have hN : fs.length = len0 := by rw [← hA.len, List.length_map]; exact L0.out
  rw [hN] at hA hL ⊢
  have HN := Lib.hid hN; clear hN
  have HA := Lib.hid hA; clear hA
  have HL := Lib.hid hL; clear hL
  have KK := Lib.hid (KG.out.trans kk); clear kk
  obtain ⟨BS, hBS⟩ : ∃ BS, wg.heap.size = BS := ⟨_, rfl⟩
  rw [hBS] at HA HL hbs
  clear hBS
  go_wp2_with fail
  refine (HA.out.fix HSM.out (fun z hz => by
    obtain ⟨s, hs, rfl⟩ := List.mem_map.1 hz
    exact HSF.out s hs) (by rw [L2.out]; exact hlen2)).mono ?_
  rintro e wl ⟨rfl, hbl, hgk, hres⟩
  have HLL := Lib.hid (HL.out.heap hgk); clear HL hgk
  have BL := Lib.hid ((KK.out.below (Nat.le_refl _) (by simp)).trans (hbl.mono hbs)); clear hbl HA
  have HRES := Lib.hid hres; clear hres
  have hsz := BL.out.size
  go_wp2_with fail
  refine (zzSpecsHaveNewline_any _ _ _ _ z1 (H1.out.below BL.out (Nat.le_refl _))).mono ?_
  rintro e v1 ⟨rfl, kv⟩
  have V1 := Lib.hid kv; clear kv
  obtain ⟨N1, hN1⟩ : ∃ B, specsNL z1 = B := ⟨_, rfl⟩
  rw [hN1]
  have HN1 := Lib.hid hN1; clear hN1
  cases N1
  · go_wp2_with fail
    refine (zzHasNewline_any _ _ _ _ z2 ((H2.out.below BL.out (Nat.le_refl _)).kept0 V1.out)).mono ?_
    rintro e v2 ⟨rfl, kv⟩
    have V2 := Lib.hid (V1.out.trans kv); clear kv
    obtain ⟨N2, hN2⟩ : ∃ B, hasNL z2 = B := ⟨_, rfl⟩
    rw [hN2]
    have HN2 := Lib.hid hN2; clear hN2
    cases N2
    · have HE0 : Hid ((specsNL z1 || hasNL z2) = false) := Lib.hid (by rw [HN1.out, HN2.out]; rfl)
      go_wp2_with fail
      go_loopw [9, 10] (fun c i wr => ∃ (j : Nat) (B : Bool), j ≤ len0 ∧ i = .int .i64 j ∧ c = .bool B ∧ Hid (B = (false || ((z0.take j).any fun s => hasNL s.op))) ∧ Kept [] wl wr) (fun _ i _ => len0 - (intOf i).toNat)
      case atStart => exact ⟨0, _, Nat.zero_le _, rfl, rfl, Lib.hid (by simp), V2.out⟩
      case round =>
        obtain ⟨j, B, hj, rfl, rfl, HB, hb⟩ := hrel
        have KQ := Lib.hid hb; clear hb
        by_cases hjl : j < len0
        · obtain ⟨b, o, s, sa1, sl1, sc1, sa2, sl2, sc2, hs, rfl, hbl, q0, q1, q2, r1, r2⟩ := ((H0.out.below BL.out (Nat.le_refl _)).kept0 KQ.out).fl j hjl
          have hstep : ((z0.take (j + 1)).any fun s => hasNL s.op) = (((z0.take j).any fun s => hasNL s.op) || hasNL s.op) := by rw [take_snoc hs]; simp
          have HST := Lib.hid hstep; clear hstep
          have R1 := Lib.hid r1; clear r1 r2 q0 q2 hs
          have i1 : (0 : Int) ≤ (j : Int) := by omega
          have i2 : (j : Int) < (len0 : Int) := by omega
          go_wp2_with fail
          refine (zzHasNewline_any _ _ _ _ s.op R1.out).mono ?_
          rintro e w5 ⟨rfl, k5⟩
          have K5 := Lib.hid (KQ.out.trans k5); clear k5 q1
          obtain ⟨N, hN⟩ : ∃ N, hasNL s.op = N := ⟨_, rfl⟩
          rw [hN]
          have HNN := Lib.hid hN; clear hN
          cases N
          · go_wp2_with fail
            exact ⟨⟨j + 1, B, by omega, by go_num, rfl, Lib.hid (by rw [HB.out, HST.out, HNN.out]; simp), K5.out⟩, by simp [intOf]; omega⟩
          · go_wp2_with fail
            exact ⟨⟨j + 1, true, by omega, by go_num, rfl, Lib.hid (by rw [HST.out, HNN.out]; simp), K5.out⟩, by simp [intOf]; omega⟩
        · obtain rfl : len0 = j := by omega
          have hBE : B = orE (z0.map zF) z1 z2 := by rw [HB.out, List.take_of_length_le (by rw [L0.out]; exact Nat.le_refl _), orE_of z0 z1 z2 HE0.out]
          have HBE := Lib.hid hBE; clear hBE
          cases B
          · have hr : ORd wl BS nb fb cap fs (z0.map zF) z1 z2 (fun g => (Value.slice la len0 lc).ownBlock = some g) := by
              rcases HRES.out with ⟨h, _⟩ | ⟨_, h⟩
              · rw [← HBE.out] at h; cases h
              · exact h
            have HR := Lib.hid hr; clear hr HRES HB HBE
            have hcf := (HR.out.kept KQ.out).fields
            have cf0 := hcf.1
            rw [HN.out] at cf0
            have hcl1 := hcf.2.1
            have hcl2 := hcf.2.2.1
            rw [HN.out] at hcl1
            unfold maxLen at hcl2
            clear hcf
            obtain ⟨wo, rfl⟩ : ∃ wo : World, wo = wr := ⟨_, rfl⟩
            go_wp2_with fail
            clear cf0
            go_loopw [11] (fun i wr => ∃ j : Nat, j ≤ len0 ∧ i = .int .i64 j ∧ Kept [] wo wr) (fun i _ => len0 - (intOf i).toNat)
            case atStart => exact ⟨0, Nat.zero_le _, rfl, Kept.refl _ _⟩
            case round =>
              obtain ⟨j, hj, rfl, hb⟩ := hrel
              have KX := Lib.hid (KQ.out.trans hb); have KO := Lib.hid hb; clear hb
              by_cases hjl : j < len0
              · obtain ⟨b, o, s, sa1, sl1, sc1, sa2, sl2, sc2, hs, rfl, hbl, q0, q1, q2, r1, r2⟩ := ((H0.out.below BL.out (Nat.le_refl _)).kept0 KX.out).fl j hjl
                have hsm := HSF.out s (List.mem_of_getElem? hs)
                have SL1 : Hid (sl1 ≤ 1048576) := Lib.hid (by rw [← r1.len]; exact hsm.1)
                have R1 := Lib.hid r1; have R2 := Lib.hid r2; clear r1 r2 q0 hsm
                have hz0 : (z0.map zF)[j]? = some (zF s) := by rw [List.getElem?_map, hs]; rfl
                have hz := hz0
                have hjf : j < fs.length := by rw [HN.out]; exact hjl
                have hf := List.getElem?_eq_getElem hjf
                obtain ⟨f, hff⟩ : ∃ f, fs[j] = f := ⟨_, rfl⟩
                rw [hff] at hf
                obtain ⟨oa, on, oc, co, -, ho⟩ := (HR.out.kept KX.out).opens hf hz
                obtain ⟨ta, tn, tc, ct, -, ht⟩ := (HR.out.kept KX.out).ops hf hz
                have HO := Lib.hid ho; have HT := Lib.hid ht; clear ho ht
                have NF1 : Hid (f.str = true → wr.cell? ⟨fb, j * 18 + 3, none⟩ = some (.slice none 0 0)) := Lib.hid (fun h => (HR.out.kept KX.out).noF1 hf h)
                obtain ⟨hl1, hl2, lb, hla, hlc⟩ := lits_at HLL.out HN.out (by omega)
                unfold maxLen at hl2
                subst hla
                have HLC : Hid (∀ w', Kept [] wr w' → w'.cell? ⟨lb, j, none⟩ = some (.pointer (litP f))) := Lib.hid (fun w' q => hlc w' [] (KX.out.trans q) (by simp) j f hf)
                have h0 := (HR.out.kept KX.out).fields.1
                rw [HN.out] at h0
                have HFO : Hid (∀ w', Kept [] wr w' → Calls Tryz.prog 19 #[.pointer (some ⟨nb, 0, none⟩), .slice (some ⟨lb, 0, none⟩) len0 lc, .int .i64 (j : Int)] w' fun e w'' => e = .returned (.slice oa on oc) ∧ w' = w'') :=
                  Lib.hid (fun w' q => fieldOpen_any w' nb lb len0 lc j fb cap f oa on oc hjl (hlc w' [] (KX.out.trans q) (by simp) j f hf) (q.cell h0 (by simp)) (q.cell co (by simp)))
                have HH0 := Lib.hid h0; have CT := Lib.hid ct; have Q2 := Lib.hid q2
                have i1 : (0 : Int) ≤ (j : Int) := by omega
                have i2 : (j : Int) < (len0 : Int) := by omega
                clear hlc h0 co ct hff hf hz hz0 hs hjf q2
                obtain ⟨w5, hw5⟩ : ∃ w5 : World, w5 = wr := ⟨_, rfl⟩
                have K5 : Hid (Kept [] wr w5) := Lib.hid (by rw [hw5]; exact Kept.refl _ _)
                have S1 : Hid (RdZ w5 sa1 sl1 sc1 s.op) := Lib.hid (by rw [hw5]; exact R1.out)
                rw [← hw5] at q1 ⊢
                clear hw5
                go_wp2_with fail
                refine (HFO.out _ K5.out).mono ?_
                rintro e w5' ⟨rfl, rfl⟩
                go_wp2_with fail
                refine (HO.out _ K5.out).mono ?_
                rintro e w6 ⟨⟨pa, pn, pc⟩, rfl, hsb, k6⟩
                unfold Trip.val at hsb
                dsimp only [Trip.val]
                have SB := Lib.hid (Snp.rdz hsb); have S1b := Lib.hid (S1.out.kept0 k6); have K6 := Lib.hid (K5.out.trans k6); clear hsb k6 q1
                go_wp2_with fail
                refine (zzElsEqual_same _ _ _ _ _ _ _ s.op SB.out S1b.out).mono ?_
                rintro e w7 ⟨rfl, k7⟩
                have K7 := Lib.hid (K6.out.trans k7); clear k7
                have cl := HLC.out w7 K7.out
                have c0 := K7.out.cell HH0.out (by simp)
                have c4 := K7.out.cell CT.out (by simp)
                have nf := fun h => K7.out.cell (NF1.out h) (by simp)
                have q2 := K7.out.cell Q2.out (by simp)
                unfold litP at cl
                cases hstr : f.str
                all_goals
                  rw [hstr] at cl nf
                  try simp only [Bool.false_eq_true, if_false, false_implies] at cl nf
                  try simp only [if_true, true_implies] at cl nf
                  clear hstr
                  go_wp2_with fail
                  have C0 := Lib.hid c0; have C4 := Lib.hid c4; have CQ := Lib.hid q2
                  clear c0 c4 q2 nf cl
                  go_region_held3 (fun w' => w'.cell? ⟨nb, 0, none⟩ = some (.slice (some ⟨fb, 0, none⟩) len0 cap) ∧ w'.cell? ⟨fb, j * 18 + 4, none⟩ = some (.slice ta tn tc) ∧ w'.cell? ⟨b, o + j * 3 + 2, none⟩ = some (.slice sa2 sl2 sc2) ∧ Kept [] w7 w')
                    ((try go_split_ands; refine (fun h : Kept [] w7 _ => ⟨h.cell C0.out (by simp), h.cell C4.out (by simp), h.cell CQ.out (by simp), h⟩) ?_; first | exact K79.out | exact K78.out | assumption | exact (Kept.refl _ _).drew | exact Kept.drew (by assumption)))
                    (first
                    | (go_at_call 18; refine (HT.out _ K7.out.drew).mono ?_; rintro e w8 ⟨⟨ua, un, uc⟩, rfl, hsb, k8⟩; unfold Trip.val at hsb; dsimp only [Trip.val]; have SU := Lib.hid (Snp.rdz hsb); have K78 : Hid (Kept [] w7 w8) := Lib.hid ((Kept.refl _ _).drew.trans k8); clear hsb k8)
                    | (go_at_call 17; refine (zzElsEqual_same _ _ _ _ _ _ _ s.ot SU.out (R2.out.kept0 (K7.out.trans K78.out))).mono ?_; rintro e w9 ⟨rfl, k9⟩; have K79 : Hid (Kept [] w7 w9) := Lib.hid (K78.out.trans k9); clear k9))
                  have K9 := Lib.hid (KO.out.trans (K7.out.trans K79.out))
                  go_wp2_with fail
                  exact ⟨⟨j + 1, by omega, by go_num, K9.out⟩, by simp [intOf]; omega⟩
              · obtain rfl : j = len0 := by omega
                have X3 := KX
                have S2c := Lib.hid ((H1.out.below BL.out (Nat.le_refl _)).kept0 KX.out)
                have S3 := Lib.hid ((H2.out.below BL.out (Nat.le_refl _)).kept0 KX.out)
                go_wp2_with fail
                refine ((HR.out.kept X3.out).equals _ _ _ S2c.out).mono ?_
                rintro e y3 ⟨rfl, ky⟩
                have Y3 := Lib.hid (X3.out.trans ky)
                have S3b := Lib.hid (S3.out.kept0 ky); clear ky
                obtain ⟨qa, qn, qc, cq, -, hq⟩ := (HR.out.kept Y3.out).close
                have HQ := Lib.hid hq; clear hq
                go_wp2_with fail
                refine (HQ.out _ (Kept.refl _ _)).mono ?_
                rintro e y4 ⟨⟨ra, rn, rc⟩, rfl, hsc, ky⟩
                unfold Trip.val at hsc
                dsimp only [Trip.val]
                have HSC := Lib.hid (Snp.rdz hsc); have Y4 := Lib.hid (Y3.out.trans ky); have S3c := Lib.hid (S3b.out.kept0 ky); clear ky cq HQ hsc
                go_wp2_with fail
                refine (zzElsEqual_same _ _ _ _ _ _ _ z2 HSC.out S3c.out).mono ?_
                rintro e y5 ⟨rfl, ky⟩
                have Y5 := Lib.hid (Y4.out.trans ky); clear ky
                go_wp2_with fail
                go_ret
                exact ⟨rfl, BL.out.trans (Y5.out.below hsz (by simp))⟩
          · have hr : ORd wl BS nb fb cap fs ((z0.map zF).map ensFl) (z1.map ensSp) (ensE z2) (fun g => (Value.slice la len0 lc).ownBlock = some g) := by
              rcases HRES.out with ⟨_, h⟩ | ⟨h, _⟩
              · exact h
              · rw [← HBE.out] at h; cases h
            have HR := Lib.hid hr; clear hr HRES HB HBE
            have hcf := (HR.out.kept KQ.out).fields
            have cf0 := hcf.1
            rw [HN.out] at cf0
            have hcl1 := hcf.2.1
            have hcl2 := hcf.2.2.1
            rw [HN.out] at hcl1
            unfold maxLen at hcl2
            clear hcf
            obtain ⟨wo, rfl⟩ : ∃ wo : World, wo = wr := ⟨_, rfl⟩
            go_wp2_with fail
            clear cf0
            go_loopw [11] (fun i wr => ∃ j : Nat, j ≤ len0 ∧ i = .int .i64 j ∧ Kept [] wo wr) (fun i _ => len0 - (intOf i).toNat)
            case atStart => exact ⟨0, Nat.zero_le _, rfl, Kept.refl _ _⟩
            case round =>
              obtain ⟨j, hj, rfl, hb⟩ := hrel
              have KX := Lib.hid (KQ.out.trans hb); have KO := Lib.hid hb; clear hb
              by_cases hjl : j < len0
              · obtain ⟨b, o, s, sa1, sl1, sc1, sa2, sl2, sc2, hs, rfl, hbl, q0, q1, q2, r1, r2⟩ := ((H0.out.below BL.out (Nat.le_refl _)).kept0 KX.out).fl j hjl
                have hsm := HSF.out s (List.mem_of_getElem? hs)
                have SL1 : Hid (sl1 ≤ 1048576) := Lib.hid (by rw [← r1.len]; exact hsm.1)
                have R1 := Lib.hid r1; have R2 := Lib.hid r2; clear r1 r2 q0 hsm
                have hz0 : (z0.map zF)[j]? = some (zF s) := by rw [List.getElem?_map, hs]; rfl
                have hz : ((z0.map zF).map ensFl)[j]? = some (ensFl (zF s)) := by rw [List.getElem?_map, hz0]; rfl
                have hjf : j < fs.length := by rw [HN.out]; exact hjl
                have hf := List.getElem?_eq_getElem hjf
                obtain ⟨f, hff⟩ : ∃ f, fs[j] = f := ⟨_, rfl⟩
                rw [hff] at hf
                obtain ⟨oa, on, oc, co, -, ho⟩ := (HR.out.kept KX.out).opens hf hz
                obtain ⟨ta, tn, tc, ct, -, ht⟩ := (HR.out.kept KX.out).ops hf hz
                have HO := Lib.hid ho; have HT := Lib.hid ht; clear ho ht
                have NF1 : Hid (f.str = true → wr.cell? ⟨fb, j * 18 + 3, none⟩ = some (.slice none 0 0)) := Lib.hid (fun h => (HR.out.kept KX.out).noF1 hf h)
                obtain ⟨hl1, hl2, lb, hla, hlc⟩ := lits_at HLL.out HN.out (by omega)
                unfold maxLen at hl2
                subst hla
                have HLC : Hid (∀ w', Kept [] wr w' → w'.cell? ⟨lb, j, none⟩ = some (.pointer (litP f))) := Lib.hid (fun w' q => hlc w' [] (KX.out.trans q) (by simp) j f hf)
                have h0 := (HR.out.kept KX.out).fields.1
                rw [HN.out] at h0
                have HFO : Hid (∀ w', Kept [] wr w' → Calls Tryz.prog 19 #[.pointer (some ⟨nb, 0, none⟩), .slice (some ⟨lb, 0, none⟩) len0 lc, .int .i64 (j : Int)] w' fun e w'' => e = .returned (.slice oa on oc) ∧ w' = w'') :=
                  Lib.hid (fun w' q => fieldOpen_any w' nb lb len0 lc j fb cap f oa on oc hjl (hlc w' [] (KX.out.trans q) (by simp) j f hf) (q.cell h0 (by simp)) (q.cell co (by simp)))
                have HH0 := Lib.hid h0; have CT := Lib.hid ct; have Q2 := Lib.hid q2
                have i1 : (0 : Int) ≤ (j : Int) := by omega
                have i2 : (j : Int) < (len0 : Int) := by omega
                clear hlc h0 co ct hff hf hz hz0 hs hjf q2
                go_wp2_with fail
                refine (zzEnsured_any _ _ _ _ s.op R1.out SL1.out).mono ?_
                rintro e w5 ⟨⟨ea, en, ec⟩, rfl, hs1, k5⟩
                unfold Trip.val at hs1
                dsimp only [Trip.val]
                have S1 := Lib.hid (Snp.rdz hs1); have K5 := Lib.hid k5; clear hs1 k5 q1
                go_wp2_with fail
                refine (HFO.out _ K5.out).mono ?_
                rintro e w5' ⟨rfl, rfl⟩
                go_wp2_with fail
                refine (HO.out _ K5.out).mono ?_
                rintro e w6 ⟨⟨pa, pn, pc⟩, rfl, hsb, k6⟩
                unfold Trip.val at hsb
                dsimp only [Trip.val]
                have SB := Lib.hid (Snp.rdz hsb); have S1b := Lib.hid (S1.out.kept0 k6); have K6 := Lib.hid (K5.out.trans k6); clear hsb k6
                go_wp2_with fail
                refine (zzElsEqual_same _ _ _ _ _ _ _ (ensE s.op) SB.out S1b.out).mono ?_
                rintro e w7 ⟨rfl, k7⟩
                have K7 := Lib.hid (K6.out.trans k7); clear k7
                have cl := HLC.out w7 K7.out
                have c0 := K7.out.cell HH0.out (by simp)
                have c4 := K7.out.cell CT.out (by simp)
                have nf := fun h => K7.out.cell (NF1.out h) (by simp)
                have q2 := K7.out.cell Q2.out (by simp)
                unfold litP at cl
                cases hstr : f.str
                all_goals
                  rw [hstr] at cl nf
                  try simp only [Bool.false_eq_true, if_false, false_implies] at cl nf
                  try simp only [if_true, true_implies] at cl nf
                  clear hstr
                  go_wp2_with fail
                  have C0 := Lib.hid c0; have C4 := Lib.hid c4; have CQ := Lib.hid q2
                  clear c0 c4 q2 nf cl
                  go_region_held3 (fun w' => w'.cell? ⟨nb, 0, none⟩ = some (.slice (some ⟨fb, 0, none⟩) len0 cap) ∧ w'.cell? ⟨fb, j * 18 + 4, none⟩ = some (.slice ta tn tc) ∧ w'.cell? ⟨b, o + j * 3 + 2, none⟩ = some (.slice sa2 sl2 sc2) ∧ Kept [] w7 w')
                    ((try go_split_ands; refine (fun h : Kept [] w7 _ => ⟨h.cell C0.out (by simp), h.cell C4.out (by simp), h.cell CQ.out (by simp), h⟩) ?_; first | exact K79.out | exact K78.out | assumption | exact (Kept.refl _ _).drew | exact Kept.drew (by assumption)))
                    (first
                    | (go_at_call 18; refine (HT.out _ K7.out.drew).mono ?_; rintro e w8 ⟨⟨ua, un, uc⟩, rfl, hsb, k8⟩; unfold Trip.val at hsb; dsimp only [Trip.val]; have SU := Lib.hid (Snp.rdz hsb); have K78 : Hid (Kept [] w7 w8) := Lib.hid ((Kept.refl _ _).drew.trans k8); clear hsb k8)
                    | (go_at_call 17; refine (zzElsEqual_same _ _ _ _ _ _ _ s.ot SU.out (R2.out.kept0 (K7.out.trans K78.out))).mono ?_; rintro e w9 ⟨rfl, k9⟩; have K79 : Hid (Kept [] w7 w9) := Lib.hid (K78.out.trans k9); clear k9))
                  have K9 := Lib.hid (KO.out.trans (K7.out.trans K79.out))
                  go_wp2_with fail
                  exact ⟨⟨j + 1, by omega, by go_num, K9.out⟩, by simp [intOf]; omega⟩
              · obtain rfl : j = len0 := by omega
                go_wp2_with fail
                refine (zzSpecsEnsured_any _ _ _ _ z1 ((H1.out.below BL.out (Nat.le_refl _)).kept0 KX.out) hlen1 HSM.out).mono ?_
                rintro e x2 ⟨⟨ga, gn, gc⟩, rfl, hs2, kx⟩
                unfold Trip.val at hs2
                dsimp only [Trip.val]
                have X2 := Lib.hid (KX.out.trans kx)
                have S2 := Lib.hid (SpsO.rds hs2); clear hs2 kx
                go_wp2_with fail
                refine (zzEnsured_any _ _ _ _ z2 ((H2.out.below BL.out (Nat.le_refl _)).kept0 X2.out) hlen2).mono ?_
                rintro e x3 ⟨⟨ja, jn, jc⟩, rfl, hs3, kx⟩
                unfold Trip.val at hs3
                dsimp only [Trip.val]
                have X3 := Lib.hid (X2.out.trans kx)
                have S2c := Lib.hid (S2.out.kept0 kx)
                have S3 := Lib.hid (Snp.rdz hs3); clear hs3 kx S2
                go_wp2_with fail
                refine ((HR.out.kept X3.out).equals _ _ _ S2c.out).mono ?_
                rintro e y3 ⟨rfl, ky⟩
                have Y3 := Lib.hid (X3.out.trans ky)
                have S3b := Lib.hid (S3.out.kept0 ky); clear ky
                obtain ⟨qa, qn, qc, cq, -, hq⟩ := (HR.out.kept Y3.out).close
                have HQ := Lib.hid hq; clear hq
                go_wp2_with fail
                refine (HQ.out _ (Kept.refl _ _)).mono ?_
                rintro e y4 ⟨⟨ra, rn, rc⟩, rfl, hsc, ky⟩
                unfold Trip.val at hsc
                dsimp only [Trip.val]
                have HSC := Lib.hid (Snp.rdz hsc); have Y4 := Lib.hid (Y3.out.trans ky); have S3c := Lib.hid (S3b.out.kept0 ky); clear ky cq HQ hsc
                go_wp2_with fail
                refine (zzElsEqual_same _ _ _ _ _ _ _ (ensE z2) HSC.out S3c.out).mono ?_
                rintro e y5 ⟨rfl, ky⟩
                have Y5 := Lib.hid (Y4.out.trans ky); clear ky
                go_wp2_with fail
                go_ret
                exact ⟨rfl, BL.out.trans (Y5.out.below hsz (by simp))⟩
    · have HE0 : Hid ((specsNL z1 || hasNL z2) = true) := Lib.hid (by rw [HN1.out, HN2.out]; rfl)
      go_wp2_with fail
      go_loopw [9, 10] (fun c i wr => ∃ (j : Nat) (B : Bool), j ≤ len0 ∧ i = .int .i64 j ∧ c = .bool B ∧ Hid (B = (true || ((z0.take j).any fun s => hasNL s.op))) ∧ Kept [] wl wr) (fun _ i _ => len0 - (intOf i).toNat)
      case atStart => exact ⟨0, _, Nat.zero_le _, rfl, rfl, Lib.hid (by simp), V2.out⟩
      case round =>
        obtain ⟨j, B, hj, rfl, rfl, HB, hb⟩ := hrel
        have KQ := Lib.hid hb; clear hb
        by_cases hjl : j < len0
        · obtain ⟨b, o, s, sa1, sl1, sc1, sa2, sl2, sc2, hs, rfl, hbl, q0, q1, q2, r1, r2⟩ := ((H0.out.below BL.out (Nat.le_refl _)).kept0 KQ.out).fl j hjl
          have hstep : ((z0.take (j + 1)).any fun s => hasNL s.op) = (((z0.take j).any fun s => hasNL s.op) || hasNL s.op) := by rw [take_snoc hs]; simp
          have HST := Lib.hid hstep; clear hstep
          have R1 := Lib.hid r1; clear r1 r2 q0 q2 hs
          have i1 : (0 : Int) ≤ (j : Int) := by omega
          have i2 : (j : Int) < (len0 : Int) := by omega
          go_wp2_with fail
          refine (zzHasNewline_any _ _ _ _ s.op R1.out).mono ?_
          rintro e w5 ⟨rfl, k5⟩
          have K5 := Lib.hid (KQ.out.trans k5); clear k5 q1
          obtain ⟨N, hN⟩ : ∃ N, hasNL s.op = N := ⟨_, rfl⟩
          rw [hN]
          have HNN := Lib.hid hN; clear hN
          cases N
          · go_wp2_with fail
            exact ⟨⟨j + 1, B, by omega, by go_num, rfl, Lib.hid (by rw [HB.out, HST.out, HNN.out]; simp), K5.out⟩, by simp [intOf]; omega⟩
          · go_wp2_with fail
            exact ⟨⟨j + 1, true, by omega, by go_num, rfl, Lib.hid (by rw [HST.out, HNN.out]; simp), K5.out⟩, by simp [intOf]; omega⟩
        · obtain rfl : len0 = j := by omega
          have hBE : B = orE (z0.map zF) z1 z2 := by rw [HB.out, List.take_of_length_le (by rw [L0.out]; exact Nat.le_refl _), orE_of z0 z1 z2 HE0.out]
          have HBE := Lib.hid hBE; clear hBE
          cases B
          · have := HB.out
            simp at this
          · have hr : ORd wl BS nb fb cap fs ((z0.map zF).map ensFl) (z1.map ensSp) (ensE z2) (fun g => (Value.slice la len0 lc).ownBlock = some g) := by
              rcases HRES.out with ⟨_, h⟩ | ⟨h, _⟩
              · exact h
              · rw [← HBE.out] at h; cases h
            have HR := Lib.hid hr; clear hr HRES HB HBE
            have hcf := (HR.out.kept KQ.out).fields
            have cf0 := hcf.1
            rw [HN.out] at cf0
            have hcl1 := hcf.2.1
            have hcl2 := hcf.2.2.1
            rw [HN.out] at hcl1
            unfold maxLen at hcl2
            clear hcf
            obtain ⟨wo, rfl⟩ : ∃ wo : World, wo = wr := ⟨_, rfl⟩
            go_wp2_with fail
            clear cf0
            go_loopw [11] (fun i wr => ∃ j : Nat, j ≤ len0 ∧ i = .int .i64 j ∧ Kept [] wo wr) (fun i _ => len0 - (intOf i).toNat)
            case atStart => exact ⟨0, Nat.zero_le _, rfl, Kept.refl _ _⟩
            case round =>
              obtain ⟨j, hj, rfl, hb⟩ := hrel
              have KX := Lib.hid (KQ.out.trans hb); have KO := Lib.hid hb; clear hb
              by_cases hjl : j < len0
              · obtain ⟨b, o, s, sa1, sl1, sc1, sa2, sl2, sc2, hs, rfl, hbl, q0, q1, q2, r1, r2⟩ := ((H0.out.below BL.out (Nat.le_refl _)).kept0 KX.out).fl j hjl
                have hsm := HSF.out s (List.mem_of_getElem? hs)
                have SL1 : Hid (sl1 ≤ 1048576) := Lib.hid (by rw [← r1.len]; exact hsm.1)
                have R1 := Lib.hid r1; have R2 := Lib.hid r2; clear r1 r2 q0 hsm
                have hz0 : (z0.map zF)[j]? = some (zF s) := by rw [List.getElem?_map, hs]; rfl
                have hz : ((z0.map zF).map ensFl)[j]? = some (ensFl (zF s)) := by rw [List.getElem?_map, hz0]; rfl
                have hjf : j < fs.length := by rw [HN.out]; exact hjl
                have hf := List.getElem?_eq_getElem hjf
                obtain ⟨f, hff⟩ : ∃ f, fs[j] = f := ⟨_, rfl⟩
                rw [hff] at hf
                obtain ⟨oa, on, oc, co, -, ho⟩ := (HR.out.kept KX.out).opens hf hz
                obtain ⟨ta, tn, tc, ct, -, ht⟩ := (HR.out.kept KX.out).ops hf hz
                have HO := Lib.hid ho; have HT := Lib.hid ht; clear ho ht
                have NF1 : Hid (f.str = true → wr.cell? ⟨fb, j * 18 + 3, none⟩ = some (.slice none 0 0)) := Lib.hid (fun h => (HR.out.kept KX.out).noF1 hf h)
                obtain ⟨hl1, hl2, lb, hla, hlc⟩ := lits_at HLL.out HN.out (by omega)
                unfold maxLen at hl2
                subst hla
                have HLC : Hid (∀ w', Kept [] wr w' → w'.cell? ⟨lb, j, none⟩ = some (.pointer (litP f))) := Lib.hid (fun w' q => hlc w' [] (KX.out.trans q) (by simp) j f hf)
                have h0 := (HR.out.kept KX.out).fields.1
                rw [HN.out] at h0
                have HFO : Hid (∀ w', Kept [] wr w' → Calls Tryz.prog 19 #[.pointer (some ⟨nb, 0, none⟩), .slice (some ⟨lb, 0, none⟩) len0 lc, .int .i64 (j : Int)] w' fun e w'' => e = .returned (.slice oa on oc) ∧ w' = w'') :=
                  Lib.hid (fun w' q => fieldOpen_any w' nb lb len0 lc j fb cap f oa on oc hjl (hlc w' [] (KX.out.trans q) (by simp) j f hf) (q.cell h0 (by simp)) (q.cell co (by simp)))
                have HH0 := Lib.hid h0; have CT := Lib.hid ct; have Q2 := Lib.hid q2
                have i1 : (0 : Int) ≤ (j : Int) := by omega
                have i2 : (j : Int) < (len0 : Int) := by omega
                clear hlc h0 co ct hff hf hz hz0 hs hjf q2
                go_wp2_with fail
                refine (zzEnsured_any _ _ _ _ s.op R1.out SL1.out).mono ?_
                rintro e w5 ⟨⟨ea, en, ec⟩, rfl, hs1, k5⟩
                unfold Trip.val at hs1
                dsimp only [Trip.val]
                have S1 := Lib.hid (Snp.rdz hs1); have K5 := Lib.hid k5; clear hs1 k5 q1
                go_wp2_with fail
                refine (HFO.out _ K5.out).mono ?_
                rintro e w5' ⟨rfl, rfl⟩
                go_wp2_with fail
                refine (HO.out _ K5.out).mono ?_
                rintro e w6 ⟨⟨pa, pn, pc⟩, rfl, hsb, k6⟩
                unfold Trip.val at hsb
                dsimp only [Trip.val]
                have SB := Lib.hid (Snp.rdz hsb); have S1b := Lib.hid (S1.out.kept0 k6); have K6 := Lib.hid (K5.out.trans k6); clear hsb k6
                go_wp2_with fail
                refine (zzElsEqual_same _ _ _ _ _ _ _ (ensE s.op) SB.out S1b.out).mono ?_
                rintro e w7 ⟨rfl, k7⟩
                have K7 := Lib.hid (K6.out.trans k7); clear k7
                have cl := HLC.out w7 K7.out
                have c0 := K7.out.cell HH0.out (by simp)
                have c4 := K7.out.cell CT.out (by simp)
                have nf := fun h => K7.out.cell (NF1.out h) (by simp)
                have q2 := K7.out.cell Q2.out (by simp)
                unfold litP at cl
                cases hstr : f.str
                all_goals
                  rw [hstr] at cl nf
                  try simp only [Bool.false_eq_true, if_false, false_implies] at cl nf
                  try simp only [if_true, true_implies] at cl nf
                  clear hstr
                  go_wp2_with fail
                  have C0 := Lib.hid c0; have C4 := Lib.hid c4; have CQ := Lib.hid q2
                  clear c0 c4 q2 nf cl
                  go_region_held3 (fun w' => w'.cell? ⟨nb, 0, none⟩ = some (.slice (some ⟨fb, 0, none⟩) len0 cap) ∧ w'.cell? ⟨fb, j * 18 + 4, none⟩ = some (.slice ta tn tc) ∧ w'.cell? ⟨b, o + j * 3 + 2, none⟩ = some (.slice sa2 sl2 sc2) ∧ Kept [] w7 w')
                    ((try go_split_ands; refine (fun h : Kept [] w7 _ => ⟨h.cell C0.out (by simp), h.cell C4.out (by simp), h.cell CQ.out (by simp), h⟩) ?_; first | exact K79.out | exact K78.out | assumption | exact (Kept.refl _ _).drew | exact Kept.drew (by assumption)))
                    (first
                    | (go_at_call 18; refine (HT.out _ K7.out.drew).mono ?_; rintro e w8 ⟨⟨ua, un, uc⟩, rfl, hsb, k8⟩; unfold Trip.val at hsb; dsimp only [Trip.val]; have SU := Lib.hid (Snp.rdz hsb); have K78 : Hid (Kept [] w7 w8) := Lib.hid ((Kept.refl _ _).drew.trans k8); clear hsb k8)
                    | (go_at_call 17; refine (zzElsEqual_same _ _ _ _ _ _ _ s.ot SU.out (R2.out.kept0 (K7.out.trans K78.out))).mono ?_; rintro e w9 ⟨rfl, k9⟩; have K79 : Hid (Kept [] w7 w9) := Lib.hid (K78.out.trans k9); clear k9))
                  have K9 := Lib.hid (KO.out.trans (K7.out.trans K79.out))
                  go_wp2_with fail
                  exact ⟨⟨j + 1, by omega, by go_num, K9.out⟩, by simp [intOf]; omega⟩
              · obtain rfl : j = len0 := by omega
                go_wp2_with fail
                refine (zzSpecsEnsured_any _ _ _ _ z1 ((H1.out.below BL.out (Nat.le_refl _)).kept0 KX.out) hlen1 HSM.out).mono ?_
                rintro e x2 ⟨⟨ga, gn, gc⟩, rfl, hs2, kx⟩
                unfold Trip.val at hs2
                dsimp only [Trip.val]
                have X2 := Lib.hid (KX.out.trans kx)
                have S2 := Lib.hid (SpsO.rds hs2); clear hs2 kx
                go_wp2_with fail
                refine (zzEnsured_any _ _ _ _ z2 ((H2.out.below BL.out (Nat.le_refl _)).kept0 X2.out) hlen2).mono ?_
                rintro e x3 ⟨⟨ja, jn, jc⟩, rfl, hs3, kx⟩
                unfold Trip.val at hs3
                dsimp only [Trip.val]
                have X3 := Lib.hid (X2.out.trans kx)
                have S2c := Lib.hid (S2.out.kept0 kx)
                have S3 := Lib.hid (Snp.rdz hs3); clear hs3 kx S2
                go_wp2_with fail
                refine ((HR.out.kept X3.out).equals _ _ _ S2c.out).mono ?_
                rintro e y3 ⟨rfl, ky⟩
                have Y3 := Lib.hid (X3.out.trans ky)
                have S3b := Lib.hid (S3.out.kept0 ky); clear ky
                obtain ⟨qa, qn, qc, cq, -, hq⟩ := (HR.out.kept Y3.out).close
                have HQ := Lib.hid hq; clear hq
                go_wp2_with fail
                refine (HQ.out _ (Kept.refl _ _)).mono ?_
                rintro e y4 ⟨⟨ra, rn, rc⟩, rfl, hsc, ky⟩
                unfold Trip.val at hsc
                dsimp only [Trip.val]
                have HSC := Lib.hid (Snp.rdz hsc); have Y4 := Lib.hid (Y3.out.trans ky); have S3c := Lib.hid (S3b.out.kept0 ky); clear ky cq HQ hsc
                go_wp2_with fail
                refine (zzElsEqual_same _ _ _ _ _ _ _ (ensE z2) HSC.out S3c.out).mono ?_
                rintro e y5 ⟨rfl, ky⟩
                have Y5 := Lib.hid (Y4.out.trans ky); clear ky
                go_wp2_with fail
                go_ret
                exact ⟨rfl, BL.out.trans (Y5.out.below hsz (by simp))⟩
  · have HE0 : Hid ((specsNL z1 || hasNL z2) = true) := Lib.hid (by rw [HN1.out]; rfl)
    go_wp2_with fail
    go_loopw [9, 10] (fun c i wr => ∃ (j : Nat) (B : Bool), j ≤ len0 ∧ i = .int .i64 j ∧ c = .bool B ∧ Hid (B = (true || ((z0.take j).any fun s => hasNL s.op))) ∧ Kept [] wl wr) (fun _ i _ => len0 - (intOf i).toNat)
    case atStart => exact ⟨0, _, Nat.zero_le _, rfl, rfl, Lib.hid (by simp), V1.out⟩
    case round =>
      obtain ⟨j, B, hj, rfl, rfl, HB, hb⟩ := hrel
      have KQ := Lib.hid hb; clear hb
      by_cases hjl : j < len0
      · obtain ⟨b, o, s, sa1, sl1, sc1, sa2, sl2, sc2, hs, rfl, hbl, q0, q1, q2, r1, r2⟩ := ((H0.out.below BL.out (Nat.le_refl _)).kept0 KQ.out).fl j hjl
        have hstep : ((z0.take (j + 1)).any fun s => hasNL s.op) = (((z0.take j).any fun s => hasNL s.op) || hasNL s.op) := by rw [take_snoc hs]; simp
        have HST := Lib.hid hstep; clear hstep
        have R1 := Lib.hid r1; clear r1 r2 q0 q2 hs
        have i1 : (0 : Int) ≤ (j : Int) := by omega
        have i2 : (j : Int) < (len0 : Int) := by omega
        go_wp2_with fail
        refine (zzHasNewline_any _ _ _ _ s.op R1.out).mono ?_
        rintro e w5 ⟨rfl, k5⟩
        have K5 := Lib.hid (KQ.out.trans k5); clear k5 q1
        obtain ⟨N, hN⟩ : ∃ N, hasNL s.op = N := ⟨_, rfl⟩
        rw [hN]
        have HNN := Lib.hid hN; clear hN
        cases N
        · go_wp2_with fail
          exact ⟨⟨j + 1, B, by omega, by go_num, rfl, Lib.hid (by rw [HB.out, HST.out, HNN.out]; simp), K5.out⟩, by simp [intOf]; omega⟩
        · go_wp2_with fail
          exact ⟨⟨j + 1, true, by omega, by go_num, rfl, Lib.hid (by rw [HST.out, HNN.out]; simp), K5.out⟩, by simp [intOf]; omega⟩
      · obtain rfl : len0 = j := by omega
        have hBE : B = orE (z0.map zF) z1 z2 := by rw [HB.out, List.take_of_length_le (by rw [L0.out]; exact Nat.le_refl _), orE_of z0 z1 z2 HE0.out]
        have HBE := Lib.hid hBE; clear hBE
        cases B
        · have := HB.out
          simp at this
        · have hr : ORd wl BS nb fb cap fs ((z0.map zF).map ensFl) (z1.map ensSp) (ensE z2) (fun g => (Value.slice la len0 lc).ownBlock = some g) := by
            rcases HRES.out with ⟨_, h⟩ | ⟨h, _⟩
            · exact h
            · rw [← HBE.out] at h; cases h
          have HR := Lib.hid hr; clear hr HRES HB HBE
          have hcf := (HR.out.kept KQ.out).fields
          have cf0 := hcf.1
          rw [HN.out] at cf0
          have hcl1 := hcf.2.1
          have hcl2 := hcf.2.2.1
          rw [HN.out] at hcl1
          unfold maxLen at hcl2
          clear hcf
          obtain ⟨wo, rfl⟩ : ∃ wo : World, wo = wr := ⟨_, rfl⟩
          go_wp2_with fail
          clear cf0
          go_loopw [11] (fun i wr => ∃ j : Nat, j ≤ len0 ∧ i = .int .i64 j ∧ Kept [] wo wr) (fun i _ => len0 - (intOf i).toNat)
          case atStart => exact ⟨0, Nat.zero_le _, rfl, Kept.refl _ _⟩
          case round =>
            obtain ⟨j, hj, rfl, hb⟩ := hrel
            have KX := Lib.hid (KQ.out.trans hb); have KO := Lib.hid hb; clear hb
            by_cases hjl : j < len0
            · obtain ⟨b, o, s, sa1, sl1, sc1, sa2, sl2, sc2, hs, rfl, hbl, q0, q1, q2, r1, r2⟩ := ((H0.out.below BL.out (Nat.le_refl _)).kept0 KX.out).fl j hjl
              have hsm := HSF.out s (List.mem_of_getElem? hs)
              have SL1 : Hid (sl1 ≤ 1048576) := Lib.hid (by rw [← r1.len]; exact hsm.1)
              have R1 := Lib.hid r1; have R2 := Lib.hid r2; clear r1 r2 q0 hsm
              have hz0 : (z0.map zF)[j]? = some (zF s) := by rw [List.getElem?_map, hs]; rfl
              have hz : ((z0.map zF).map ensFl)[j]? = some (ensFl (zF s)) := by rw [List.getElem?_map, hz0]; rfl
              have hjf : j < fs.length := by rw [HN.out]; exact hjl
              have hf := List.getElem?_eq_getElem hjf
              obtain ⟨f, hff⟩ : ∃ f, fs[j] = f := ⟨_, rfl⟩
              rw [hff] at hf
              obtain ⟨oa, on, oc, co, -, ho⟩ := (HR.out.kept KX.out).opens hf hz
              obtain ⟨ta, tn, tc, ct, -, ht⟩ := (HR.out.kept KX.out).ops hf hz
              have HO := Lib.hid ho; have HT := Lib.hid ht; clear ho ht
              have NF1 : Hid (f.str = true → wr.cell? ⟨fb, j * 18 + 3, none⟩ = some (.slice none 0 0)) := Lib.hid (fun h => (HR.out.kept KX.out).noF1 hf h)
              obtain ⟨hl1, hl2, lb, hla, hlc⟩ := lits_at HLL.out HN.out (by omega)
              unfold maxLen at hl2
              subst hla
              have HLC : Hid (∀ w', Kept [] wr w' → w'.cell? ⟨lb, j, none⟩ = some (.pointer (litP f))) := Lib.hid (fun w' q => hlc w' [] (KX.out.trans q) (by simp) j f hf)
              have h0 := (HR.out.kept KX.out).fields.1
              rw [HN.out] at h0
              have HFO : Hid (∀ w', Kept [] wr w' → Calls Tryz.prog 19 #[.pointer (some ⟨nb, 0, none⟩), .slice (some ⟨lb, 0, none⟩) len0 lc, .int .i64 (j : Int)] w' fun e w'' => e = .returned (.slice oa on oc) ∧ w' = w'') :=
                Lib.hid (fun w' q => fieldOpen_any w' nb lb len0 lc j fb cap f oa on oc hjl (hlc w' [] (KX.out.trans q) (by simp) j f hf) (q.cell h0 (by simp)) (q.cell co (by simp)))
              have HH0 := Lib.hid h0; have CT := Lib.hid ct; have Q2 := Lib.hid q2
              have i1 : (0 : Int) ≤ (j : Int) := by omega
              have i2 : (j : Int) < (len0 : Int) := by omega
              clear hlc h0 co ct hff hf hz hz0 hs hjf q2
              go_wp2_with fail
              refine (zzEnsured_any _ _ _ _ s.op R1.out SL1.out).mono ?_
              rintro e w5 ⟨⟨ea, en, ec⟩, rfl, hs1, k5⟩
              unfold Trip.val at hs1
              dsimp only [Trip.val]
              have S1 := Lib.hid (Snp.rdz hs1); have K5 := Lib.hid k5; clear hs1 k5 q1
              go_wp2_with fail
              refine (HFO.out _ K5.out).mono ?_
              rintro e w5' ⟨rfl, rfl⟩
              go_wp2_with fail
              refine (HO.out _ K5.out).mono ?_
              rintro e w6 ⟨⟨pa, pn, pc⟩, rfl, hsb, k6⟩
              unfold Trip.val at hsb
              dsimp only [Trip.val]
              have SB := Lib.hid (Snp.rdz hsb); have S1b := Lib.hid (S1.out.kept0 k6); have K6 := Lib.hid (K5.out.trans k6); clear hsb k6
              go_wp2_with fail
              refine (zzElsEqual_same _ _ _ _ _ _ _ (ensE s.op) SB.out S1b.out).mono ?_
              rintro e w7 ⟨rfl, k7⟩
              have K7 := Lib.hid (K6.out.trans k7); clear k7
              have cl := HLC.out w7 K7.out
              have c0 := K7.out.cell HH0.out (by simp)
              have c4 := K7.out.cell CT.out (by simp)
              have nf := fun h => K7.out.cell (NF1.out h) (by simp)
              have q2 := K7.out.cell Q2.out (by simp)
              unfold litP at cl
              cases hstr : f.str
              all_goals
                rw [hstr] at cl nf
                try simp only [Bool.false_eq_true, if_false, false_implies] at cl nf
                try simp only [if_true, true_implies] at cl nf
                clear hstr
                go_wp2_with fail
                have C0 := Lib.hid c0; have C4 := Lib.hid c4; have CQ := Lib.hid q2
                clear c0 c4 q2 nf cl
                go_region_held3 (fun w' => w'.cell? ⟨nb, 0, none⟩ = some (.slice (some ⟨fb, 0, none⟩) len0 cap) ∧ w'.cell? ⟨fb, j * 18 + 4, none⟩ = some (.slice ta tn tc) ∧ w'.cell? ⟨b, o + j * 3 + 2, none⟩ = some (.slice sa2 sl2 sc2) ∧ Kept [] w7 w')
                  ((try go_split_ands; refine (fun h : Kept [] w7 _ => ⟨h.cell C0.out (by simp), h.cell C4.out (by simp), h.cell CQ.out (by simp), h⟩) ?_; first | exact K79.out | exact K78.out | assumption | exact (Kept.refl _ _).drew | exact Kept.drew (by assumption)))
                  (first
                  | (go_at_call 18; refine (HT.out _ K7.out.drew).mono ?_; rintro e w8 ⟨⟨ua, un, uc⟩, rfl, hsb, k8⟩; unfold Trip.val at hsb; dsimp only [Trip.val]; have SU := Lib.hid (Snp.rdz hsb); have K78 : Hid (Kept [] w7 w8) := Lib.hid ((Kept.refl _ _).drew.trans k8); clear hsb k8)
                  | (go_at_call 17; refine (zzElsEqual_same _ _ _ _ _ _ _ s.ot SU.out (R2.out.kept0 (K7.out.trans K78.out))).mono ?_; rintro e w9 ⟨rfl, k9⟩; have K79 : Hid (Kept [] w7 w9) := Lib.hid (K78.out.trans k9); clear k9))
                have K9 := Lib.hid (KO.out.trans (K7.out.trans K79.out))
                go_wp2_with fail
                exact ⟨⟨j + 1, by omega, by go_num, K9.out⟩, by simp [intOf]; omega⟩
            · obtain rfl : j = len0 := by omega
              go_wp2_with fail
              refine (zzSpecsEnsured_any _ _ _ _ z1 ((H1.out.below BL.out (Nat.le_refl _)).kept0 KX.out) hlen1 HSM.out).mono ?_
              rintro e x2 ⟨⟨ga, gn, gc⟩, rfl, hs2, kx⟩
              unfold Trip.val at hs2
              dsimp only [Trip.val]
              have X2 := Lib.hid (KX.out.trans kx)
              have S2 := Lib.hid (SpsO.rds hs2); clear hs2 kx
              go_wp2_with fail
              refine (zzEnsured_any _ _ _ _ z2 ((H2.out.below BL.out (Nat.le_refl _)).kept0 X2.out) hlen2).mono ?_
              rintro e x3 ⟨⟨ja, jn, jc⟩, rfl, hs3, kx⟩
              unfold Trip.val at hs3
              dsimp only [Trip.val]
              have X3 := Lib.hid (X2.out.trans kx)
              have S2c := Lib.hid (S2.out.kept0 kx)
              have S3 := Lib.hid (Snp.rdz hs3); clear hs3 kx S2
              go_wp2_with fail
              refine ((HR.out.kept X3.out).equals _ _ _ S2c.out).mono ?_
              rintro e y3 ⟨rfl, ky⟩
              have Y3 := Lib.hid (X3.out.trans ky)
              have S3b := Lib.hid (S3.out.kept0 ky); clear ky
              obtain ⟨qa, qn, qc, cq, -, hq⟩ := (HR.out.kept Y3.out).close
              have HQ := Lib.hid hq; clear hq
              go_wp2_with fail
              refine (HQ.out _ (Kept.refl _ _)).mono ?_
              rintro e y4 ⟨⟨ra, rn, rc⟩, rfl, hsc, ky⟩
              unfold Trip.val at hsc
              dsimp only [Trip.val]
              have HSC := Lib.hid (Snp.rdz hsc); have Y4 := Lib.hid (Y3.out.trans ky); have S3c := Lib.hid (S3b.out.kept0 ky); clear ky cq HQ hsc
              go_wp2_with fail
              refine (zzElsEqual_same _ _ _ _ _ _ _ (ensE z2) HSC.out S3c.out).mono ?_
              rintro e y5 ⟨rfl, ky⟩
              have Y5 := Lib.hid (Y4.out.trans ky); clear ky
              go_wp2_with fail
              go_ret
              exact ⟨rfl, BL.out.trans (Y5.out.below hsz (by simp))⟩
end fnObjectCompMatchesModel
end Go.Proofs.YtgdipdbmllkckaaGreatFmt
