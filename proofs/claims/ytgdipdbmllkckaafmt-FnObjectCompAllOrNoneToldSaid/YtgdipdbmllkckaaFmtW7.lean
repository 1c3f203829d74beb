/- The walk of the law FnObjectCompAllOrNone: it returns true at every list of fields, list of levels and close fodder, and writes nothing that was there. -/
import Derived.Test.YtgdipdbmllkckaaFmtZBF
import Derived.Test.YtgdipdbmllkckaaFmtBoc
namespace Go.Proofs.YtgdipdbmllkckaaFmt
open Go.ChangeShapes Go.WideShapes Go.ChangeAt Go.RowKit

namespace fnObjectCompAllOrNone
set_option maxRecDepth 100000 in
set_option maxHeartbeats 16000000 in
theorem walk (a0 : Option Addr) (len0 cap0 : Nat) (z0 : List FL) (a1 : Option Addr) (len1 cap1 : Nat) (z1 : List SE) (a2 : Option Addr) (len2 cap2 : Nat) (z2 : List ZE) (w : World) (w0 : RdF w a0 len0 cap0 z0) (w1 : RdS w a1 len1 cap1 z1) (w2 : RdZ w a2 len2 cap2 z2) :
    Calls Tryf.prog 3 #[.slice a0 len0 cap0, .slice a1 len1 cap1, .slice a2 len2 cap2] w fun e w' => e = .returned (.bool true) ∧ Below w.heap.size w w' := by
  have hle0 := w0.le
  have htop0 := w0.top
  have hdl0 := w0.len
  have hle1 := w1.le
  have htop1 := w1.top
  have hdl1 := w1.len
  have hle2 := w2.le
  have htop2 := w2.top
  have hdl2 := w2.len
  unfold maxLen at htop0 htop1 htop2
  have L0 := Lib.hid hdl0; clear hdl0
  have L1 := Lib.hid hdl1; clear hdl1
  have L2 := Lib.hid hdl2; clear hdl2
  have H0 := Lib.hid w0; clear w0
  have H1 := Lib.hid w1; clear w1
  have H2 := Lib.hid w2; clear w2
  go_enter Tryf.func3, Tryf.ntmps3
  go_wp2_with fail
  refine (zzBytes_FnObjectCompAllOrNone_any _ _ _ _ z0 _ _ _ z1 _ _ _ H0.out H1.out (by omega)).mono ?_
  rintro e wa ⟨b, rfl, k1, hsm⟩
  have KA := Lib.hid k1; clear k1
  cases b
  · clear hsm
    go_wp2_with fail
    go_ret
    exact ⟨rfl, KA.out.below (Nat.le_refl _) (by simp)⟩
  obtain ⟨⟨hlen0, hsf⟩, ⟨hlen1, hsm⟩, hlen2⟩ := hsm rfl
  have HSM := Lib.hid hsm; clear hsm
  have HSF := Lib.hid hsf; clear hsf
  go_wp2_with fail
  refine (zzFieldsBytes_any _ _ _ _ z0 (H0.out.kept0 KA.out)).mono ?_
  rintro e wb ⟨n1, rfl, k2⟩
  have KB := Lib.hid (KA.out.trans k2); clear k2
  go_wp2_with fail
  refine (zzSpecsBytes_any _ _ _ _ z1 (H1.out.kept0 KB.out)).mono ?_
  rintro e wc ⟨n2, rfl, k2⟩
  have KC := Lib.hid (KB.out.trans k2); clear k2
  go_wp2_with fail
  refine (zzElsBytes_any _ _ _ _ z2 (H2.out.kept0 KC.out)).mono ?_
  rintro e wd ⟨n3, rfl, k2⟩
  have KD := Lib.hid (KC.out.trans k2); clear k2
  obtain ⟨S, hS⟩ : ∃ S, wrap64 (wrap64 (n1 + n2) + n3) = S := ⟨_, rfl⟩
  by_cases hn2 : 1048576 < S
  · go_wp2_with fail
    go_ret
    exact ⟨rfl, KD.out.below (Nat.le_refl _) (by simp)⟩
  go_wp2_with fail
  clear hS
  refine (zzIntIs64_any _).mono ?_
  rintro e wd' ⟨rfl, rfl⟩
  by_cases h0 : len1 = 0
  · subst h0
    go_wp2_with fail
    go_ret
    exact ⟨rfl, KD.out.below (Nat.le_refl _) (by simp)⟩
  have h0' : ((len1 : Int) == 0) = false := by simpa using h0
  go_wp2_with fail
  refine (zzFieldsOK_any _ _ _ _ z0 (H0.out.kept0 KD.out)).mono ?_
  rintro e we ⟨b, rfl, k3, hgd⟩
  have KE := Lib.hid (KD.out.trans k3); clear k3
  cases b
  · clear hgd
    go_wp2_with fail
    go_ret
    exact ⟨rfl, KE.out.below (Nat.le_refl _) (by simp)⟩
  have G0 := Lib.hid (hgd rfl); clear hgd
  go_wp2_with fail
  refine (zzSpecsOK_any _ _ _ _ z1 (H1.out.kept0 KE.out)).mono ?_
  rintro e wf ⟨b, rfl, k3, hgd⟩
  have KF := Lib.hid (KE.out.trans k3); clear k3
  cases b
  · clear hgd
    go_wp2_with fail
    go_ret
    exact ⟨rfl, KF.out.below (Nat.le_refl _) (by simp)⟩
  have G1 := Lib.hid (hgd rfl); clear hgd
  go_wp2_with fail
  refine (zzElsOK_any _ _ _ _ z2 (H2.out.kept0 KF.out)).mono ?_
  rintro e wg ⟨b, rfl, k3, hgd⟩
  have KG := Lib.hid (KF.out.trans k3); clear k3
  cases b
  · clear hgd
    go_wp2_with fail
    go_ret
    exact ⟨rfl, KG.out.below (Nat.le_refl _) (by simp)⟩
  have G2 := Lib.hid (hgd rfl); clear hgd
  have hpos : 0 < len1 := by omega
  go_wp2_with fail
  refine (zzBuildObjectComp_any _ _ _ _ z0 (H0.out.kept0 KG.out) _ _ _ z1 (H1.out.kept0 KG.out) _ _ _ z2 (H2.out.kept0 KG.out) hlen0 hlen1 hpos hlen2 G0.out HSF.out G1.out HSM.out G2.out).mono ?_
  rintro e wk ⟨nb, fb, cap, la, lc, fs, rfl, hA, hL, kk⟩
  have hbs := KG.out.size
  have hN : fs.length = len0 := by rw [← hA.len, List.length_map]; exact L0.out
  rw [hN] at hA hL ⊢
  have HN := Lib.hid hN; clear hN
  have HA := Lib.hid hA; clear hA
  have HL := Lib.hid hL; clear hL
  have KK := Lib.hid (KG.out.trans kk); clear kk
  obtain ⟨BS, hBS⟩ : ∃ BS, wg.heap.size = BS := ⟨_, rfl⟩
  rw [hBS] at HA HL hbs
  clear hBS
  go_wp2_with fail
  refine (HA.out.fix HSM.out (fun z hz => by
    obtain ⟨s, hs, rfl⟩ := List.mem_map.1 hz
    exact HSF.out s hs) (by rw [L2.out]; exact hlen2)).mono ?_
  rintro e wl ⟨rfl, hbl, hgk, hres⟩
  have HLL := Lib.hid (HL.out.heap hgk); clear HL hgk
  have BL := Lib.hid ((KK.out.below (Nat.le_refl _) (by simp)).trans (hbl.mono hbs)); clear hbl HA
  have HRES := Lib.hid hres; clear hres
  have hsz := BL.out.size
  have hE : ∃ zs ws zc, ORd wl BS nb fb cap fs zs ws zc (fun g => (Value.slice la len0 lc).ownBlock = some g) ∧ (((∀ z ∈ zs, endsC z.2.1 = true) ∧ (∀ s ∈ ws, endsC s.f = true ∧ ∀ d ∈ s.ifs, endsC d = true) ∧ endsC zc = true) ∨ ((∀ z ∈ zs, hasNL z.2.1 = false) ∧ specsNL ws = false ∧ hasNL zc = false)) := by
    rcases HRES.out with ⟨_, h⟩ | ⟨hno, h⟩
    · refine ⟨_, _, _, h, Or.inl ⟨fun z hz => ?_, fun s hs => ?_, ensE_ends _⟩⟩
      · obtain ⟨t, _, rfl⟩ := List.mem_map.1 hz
        exact ensE_ends _
      obtain ⟨t, _, rfl⟩ := List.mem_map.1 hs
      refine ⟨ensE_ends _, fun d hd => ?_⟩
      obtain ⟨d', _, rfl⟩ := List.mem_map.1 hd
      exact ensE_ends _
    · unfold orE at hno
      rw [Bool.or_eq_false_iff, Bool.or_eq_false_iff] at hno
      refine ⟨_, _, _, h, Or.inr ⟨fun z hz => ?_, hno.1.2, hno.2⟩⟩
      have := List.any_eq_false.1 hno.1.1 z hz
      simpa using this
  obtain ⟨zs, ws, zc, hr, hx⟩ := hE
  have HR := Lib.hid hr; clear hr HRES
  obtain ⟨ya, yn, yc, cy, -, hy⟩ := HR.out.close
  have HY := Lib.hid hy; clear hy
  obtain ⟨cf0, cf1, cf2, cf3⟩ := HR.out.fields
  rw [HN.out] at cf0
  clear cf1 cf2 cf3
  go_wp2_with fail
  refine (HY.out _ (Kept.refl _ _)).mono ?_
  rintro e wm ⟨⟨pa, pn, pc⟩, rfl, hsc, klm⟩
  have RC := Lib.hid (Snp.rdz (show Snp wm _ (.slice pa pn pc) _ from hsc)); clear hsc
  have KLM := Lib.hid klm; clear klm cy cf0
  dsimp only [Trip.val]
  go_wp2_with fail
  refine (((HR.out.kept KLM.out).asks).1).mono ?_
  rintro e wn ⟨b4, rfl, k4, hb4⟩
  have V4 := Lib.hid (KLM.out.trans k4); have RC4 := Lib.hid (RC.out.kept0 k4); clear k4
  rcases hx with hx | hx
  · obtain rfl := hb4 hx.2.1
    have HX := Lib.hid hx; clear hx hb4
    go_wp2_with fail
    refine (zzEndsClean_any _ _ _ _ zc RC4.out).mono ?_
    rintro e wn' ⟨rfl, rfl⟩
    rw [HX.out.2.2]
    go_wp2_with fail
    refine (((HR.out.kept V4.out).asks).2).mono ?_
    rintro e wo ⟨b2, rfl, k2, -⟩
    have V2 := Lib.hid (V4.out.trans k2); have RC2 := Lib.hid (RC4.out.kept0 k2); clear k2
    cases b2
    · skip
      go_wp2_with fail
      go_loopw [10, 11, 12] (fun c n i wr => ∃ (j : Nat) (N : Bool), j ≤ len0 ∧ c = .bool true ∧ n = .bool N ∧ i = .int .i64 j ∧ Kept [] wl wr) (fun _ _ i _ => len0 - (intOf i).toNat)
      case atStart => exact ⟨0, _, Nat.zero_le _, rfl, rfl, rfl, V2.out⟩
      case round =>
        obtain ⟨j, N, hj, rfl, rfl, rfl, hb⟩ := hrel
        have KQ := Lib.hid hb; clear hb
        by_cases hjl : j < len0
        · have hjf : j < fs.length := by rw [HN.out]; exact hjl
          have hjz : j < zs.length := by rw [HR.out.len]; exact hjf
          have hf := List.getElem?_eq_getElem hjf
          have hz := List.getElem?_eq_getElem hjz
          obtain ⟨f, hff⟩ : ∃ f, fs[j] = f := ⟨_, rfl⟩
          obtain ⟨z, hzz⟩ : ∃ z, zs[j] = z := ⟨_, rfl⟩
          rw [hff] at hf
          rw [hzz] at hz
          have hzm := List.mem_of_getElem? hz
          have hX := HX.out.1 z hzm
          obtain ⟨oa, on, oc, co, -, ho⟩ := (HR.out.kept KQ.out).opens hf hz
          have HO := Lib.hid ho; clear ho
          obtain ⟨hl1, hl2, lb, hla, hlc⟩ := lits_at HLL.out HN.out (by omega)
          unfold maxLen at hl2
          subst hla
          have hl := hlc wr [] KQ.out (by simp) j f hf
          have h0 := (HR.out.kept KQ.out).fields.1
          rw [HN.out] at h0
          have hfo := fieldOpen_any wr nb lb len0 lc j fb cap f oa on oc hjl hl h0 co
          have HFO := Lib.hid hfo; clear hfo hlc hl h0 co hff hzz hf hz hjf hjz
          have HXX := Lib.hid hX; clear hX hzm
          go_wp2_with fail
          refine HFO.out.mono ?_
          rintro e w5 ⟨rfl, rfl⟩
          go_wp2_with fail
          refine (HO.out _ (Kept.refl _ _)).mono ?_
          rintro e w5 ⟨⟨sa, sn, sc⟩, rfl, hsn, k5⟩
          have RS := Lib.hid (Snp.rdz (show Snp w5 _ (.slice sa sn sc) _ from hsn)); clear hsn
          have K5 := Lib.hid k5; clear k5
          dsimp only [Trip.val]
          go_wp2_with fail
          refine (zzEndsClean_any _ _ _ _ z.2.1 RS.out).mono ?_
          rintro e w6 ⟨rfl, rfl⟩
          rw [HXX.out]
          go_wp2_with fail
          refine (zzHasNewline_any _ _ _ _ z.2.1 RS.out).mono ?_
          rintro e w7 ⟨rfl, k7⟩
          have K7 := Lib.hid ((KQ.out.trans K5.out).trans k7); clear k7
          obtain ⟨N1, hN1⟩ : ∃ B, hasNL z.2.1 = B := ⟨_, rfl⟩
          rw [hN1]
          clear hN1
          cases N1
          rotate_left
          · go_wp2_with fail
            exact ⟨⟨j + 1, _, by omega, rfl, rfl, by go_num, K7.out⟩, by simp [intOf]; omega⟩
          go_wp2_with fail
          exact ⟨⟨j + 1, _, by omega, rfl, rfl, by go_num, K7.out⟩, by simp [intOf]; omega⟩
        · obtain rfl : j = len0 := by omega
          go_wp2_with fail
          go_ret
          exact ⟨rfl, BL.out.trans (KQ.out.below hsz (by simp))⟩
    · go_wp2_with fail
      refine (zzHasNewline_any _ _ _ _ zc RC2.out).mono ?_
      rintro e wp ⟨rfl, k3⟩
      have V3 := Lib.hid (V2.out.trans k3); clear k3
      obtain ⟨N3, hN3⟩ : ∃ B, hasNL zc = B := ⟨_, rfl⟩
      rw [hN3]
      clear hN3
      cases N3
      all_goals
        go_wp2_with fail
        go_loopw [10, 11, 12] (fun c n i wr => ∃ (j : Nat) (N : Bool), j ≤ len0 ∧ c = .bool true ∧ n = .bool N ∧ i = .int .i64 j ∧ Kept [] wl wr) (fun _ _ i _ => len0 - (intOf i).toNat)
        case atStart => exact ⟨0, _, Nat.zero_le _, rfl, rfl, rfl, V3.out⟩
        case round =>
          obtain ⟨j, N, hj, rfl, rfl, rfl, hb⟩ := hrel
          have KQ := Lib.hid hb; clear hb
          by_cases hjl : j < len0
          · have hjf : j < fs.length := by rw [HN.out]; exact hjl
            have hjz : j < zs.length := by rw [HR.out.len]; exact hjf
            have hf := List.getElem?_eq_getElem hjf
            have hz := List.getElem?_eq_getElem hjz
            obtain ⟨f, hff⟩ : ∃ f, fs[j] = f := ⟨_, rfl⟩
            obtain ⟨z, hzz⟩ : ∃ z, zs[j] = z := ⟨_, rfl⟩
            rw [hff] at hf
            rw [hzz] at hz
            have hzm := List.mem_of_getElem? hz
            have hX := HX.out.1 z hzm
            obtain ⟨oa, on, oc, co, -, ho⟩ := (HR.out.kept KQ.out).opens hf hz
            have HO := Lib.hid ho; clear ho
            obtain ⟨hl1, hl2, lb, hla, hlc⟩ := lits_at HLL.out HN.out (by omega)
            unfold maxLen at hl2
            subst hla
            have hl := hlc wr [] KQ.out (by simp) j f hf
            have h0 := (HR.out.kept KQ.out).fields.1
            rw [HN.out] at h0
            have hfo := fieldOpen_any wr nb lb len0 lc j fb cap f oa on oc hjl hl h0 co
            have HFO := Lib.hid hfo; clear hfo hlc hl h0 co hff hzz hf hz hjf hjz
            have HXX := Lib.hid hX; clear hX hzm
            go_wp2_with fail
            refine HFO.out.mono ?_
            rintro e w5 ⟨rfl, rfl⟩
            go_wp2_with fail
            refine (HO.out _ (Kept.refl _ _)).mono ?_
            rintro e w5 ⟨⟨sa, sn, sc⟩, rfl, hsn, k5⟩
            have RS := Lib.hid (Snp.rdz (show Snp w5 _ (.slice sa sn sc) _ from hsn)); clear hsn
            have K5 := Lib.hid k5; clear k5
            dsimp only [Trip.val]
            go_wp2_with fail
            refine (zzEndsClean_any _ _ _ _ z.2.1 RS.out).mono ?_
            rintro e w6 ⟨rfl, rfl⟩
            rw [HXX.out]
            go_wp2_with fail
            refine (zzHasNewline_any _ _ _ _ z.2.1 RS.out).mono ?_
            rintro e w7 ⟨rfl, k7⟩
            have K7 := Lib.hid ((KQ.out.trans K5.out).trans k7); clear k7
            obtain ⟨N1, hN1⟩ : ∃ B, hasNL z.2.1 = B := ⟨_, rfl⟩
            rw [hN1]
            clear hN1
            cases N1
            rotate_left
            · go_wp2_with fail
              exact ⟨⟨j + 1, _, by omega, rfl, rfl, by go_num, K7.out⟩, by simp [intOf]; omega⟩
            go_wp2_with fail
            exact ⟨⟨j + 1, _, by omega, rfl, rfl, by go_num, K7.out⟩, by simp [intOf]; omega⟩
          · obtain rfl : j = len0 := by omega
            go_wp2_with fail
            go_ret
            exact ⟨rfl, BL.out.trans (KQ.out.below hsz (by simp))⟩
  · have HX := Lib.hid hx; clear hx hb4
    cases b4
    · go_wp2_with fail
      refine (((HR.out.kept V4.out).asks).2).mono ?_
      rintro e wo ⟨b2, rfl, k2, hb2⟩
      have V2 := Lib.hid (V4.out.trans k2); have RC2 := Lib.hid (RC4.out.kept0 k2); clear k2
      obtain rfl := hb2 HX.out.2.1
      clear hb2
      go_wp2_with fail
      refine (zzHasNewline_any _ _ _ _ zc RC2.out).mono ?_
      rintro e wp ⟨rfl, k3⟩
      have V3 := Lib.hid (V2.out.trans k3); clear k3
      rw [HX.out.2.2]
      go_wp2_with fail
      go_loopw [10, 11, 12] (fun c n i wr => ∃ (j : Nat) (N : Bool), j ≤ len0 ∧ c = .bool N ∧ n = .bool true ∧ i = .int .i64 j ∧ Kept [] wl wr) (fun _ _ i _ => len0 - (intOf i).toNat)
      case atStart => exact ⟨0, _, Nat.zero_le _, rfl, rfl, rfl, V3.out⟩
      case round =>
        obtain ⟨j, N, hj, rfl, rfl, rfl, hb⟩ := hrel
        have KQ := Lib.hid hb; clear hb
        by_cases hjl : j < len0
        · have hjf : j < fs.length := by rw [HN.out]; exact hjl
          have hjz : j < zs.length := by rw [HR.out.len]; exact hjf
          have hf := List.getElem?_eq_getElem hjf
          have hz := List.getElem?_eq_getElem hjz
          obtain ⟨f, hff⟩ : ∃ f, fs[j] = f := ⟨_, rfl⟩
          obtain ⟨z, hzz⟩ : ∃ z, zs[j] = z := ⟨_, rfl⟩
          rw [hff] at hf
          rw [hzz] at hz
          have hzm := List.mem_of_getElem? hz
          have hX := HX.out.1 z hzm
          obtain ⟨oa, on, oc, co, -, ho⟩ := (HR.out.kept KQ.out).opens hf hz
          have HO := Lib.hid ho; clear ho
          obtain ⟨hl1, hl2, lb, hla, hlc⟩ := lits_at HLL.out HN.out (by omega)
          unfold maxLen at hl2
          subst hla
          have hl := hlc wr [] KQ.out (by simp) j f hf
          have h0 := (HR.out.kept KQ.out).fields.1
          rw [HN.out] at h0
          have hfo := fieldOpen_any wr nb lb len0 lc j fb cap f oa on oc hjl hl h0 co
          have HFO := Lib.hid hfo; clear hfo hlc hl h0 co hff hzz hf hz hjf hjz
          have HXX := Lib.hid hX; clear hX hzm
          go_wp2_with fail
          refine HFO.out.mono ?_
          rintro e w5 ⟨rfl, rfl⟩
          go_wp2_with fail
          refine (HO.out _ (Kept.refl _ _)).mono ?_
          rintro e w5 ⟨⟨sa, sn, sc⟩, rfl, hsn, k5⟩
          have RS := Lib.hid (Snp.rdz (show Snp w5 _ (.slice sa sn sc) _ from hsn)); clear hsn
          have K5 := Lib.hid k5; clear k5
          dsimp only [Trip.val]
          go_wp2_with fail
          refine (zzEndsClean_any _ _ _ _ z.2.1 RS.out).mono ?_
          rintro e w6 ⟨rfl, rfl⟩
          obtain ⟨N1, hN1⟩ : ∃ B, endsC z.2.1 = B := ⟨_, rfl⟩
          rw [hN1]
          clear hN1
          cases N1
          · go_wp2_with fail
            refine (zzHasNewline_any _ _ _ _ z.2.1 RS.out).mono ?_
            rintro e w7 ⟨rfl, k7⟩
            have K7 := Lib.hid ((KQ.out.trans K5.out).trans k7); clear k7
            rw [HXX.out]
            go_wp2_with fail
            exact ⟨⟨j + 1, _, by omega, rfl, rfl, by go_num, K7.out⟩, by simp [intOf]; omega⟩
          go_wp2_with fail
          refine (zzHasNewline_any _ _ _ _ z.2.1 RS.out).mono ?_
          rintro e w7 ⟨rfl, k7⟩
          have K7 := Lib.hid ((KQ.out.trans K5.out).trans k7); clear k7
          rw [HXX.out]
          go_wp2_with fail
          exact ⟨⟨j + 1, _, by omega, rfl, rfl, by go_num, K7.out⟩, by simp [intOf]; omega⟩
        · obtain rfl : j = len0 := by omega
          cases N
          · go_wp2_with fail
            go_ret
            exact ⟨rfl, BL.out.trans (KQ.out.below hsz (by simp))⟩
          go_wp2_with fail
          go_ret
          exact ⟨rfl, BL.out.trans (KQ.out.below hsz (by simp))⟩
    · go_wp2_with fail
      refine (zzEndsClean_any _ _ _ _ zc RC4.out).mono ?_
      rintro e wn' ⟨rfl, rfl⟩
      obtain ⟨N4, hN4⟩ : ∃ B, endsC zc = B := ⟨_, rfl⟩
      rw [hN4]
      clear hN4
      cases N4
      all_goals
        go_wp2_with fail
        refine (((HR.out.kept V4.out).asks).2).mono ?_
        rintro e wo ⟨b2, rfl, k2, hb2⟩
        have V2 := Lib.hid (V4.out.trans k2); have RC2 := Lib.hid (RC4.out.kept0 k2); clear k2
        obtain rfl := hb2 HX.out.2.1
        clear hb2
        go_wp2_with fail
        refine (zzHasNewline_any _ _ _ _ zc RC2.out).mono ?_
        rintro e wp ⟨rfl, k3⟩
        have V3 := Lib.hid (V2.out.trans k3); clear k3
        rw [HX.out.2.2]
        go_wp2_with fail
        go_loopw [10, 11, 12] (fun c n i wr => ∃ (j : Nat) (N : Bool), j ≤ len0 ∧ c = .bool N ∧ n = .bool true ∧ i = .int .i64 j ∧ Kept [] wl wr) (fun _ _ i _ => len0 - (intOf i).toNat)
        case atStart => exact ⟨0, _, Nat.zero_le _, rfl, rfl, rfl, V3.out⟩
        case round =>
          obtain ⟨j, N, hj, rfl, rfl, rfl, hb⟩ := hrel
          have KQ := Lib.hid hb; clear hb
          by_cases hjl : j < len0
          · have hjf : j < fs.length := by rw [HN.out]; exact hjl
            have hjz : j < zs.length := by rw [HR.out.len]; exact hjf
            have hf := List.getElem?_eq_getElem hjf
            have hz := List.getElem?_eq_getElem hjz
            obtain ⟨f, hff⟩ : ∃ f, fs[j] = f := ⟨_, rfl⟩
            obtain ⟨z, hzz⟩ : ∃ z, zs[j] = z := ⟨_, rfl⟩
            rw [hff] at hf
            rw [hzz] at hz
            have hzm := List.mem_of_getElem? hz
            have hX := HX.out.1 z hzm
            obtain ⟨oa, on, oc, co, -, ho⟩ := (HR.out.kept KQ.out).opens hf hz
            have HO := Lib.hid ho; clear ho
            obtain ⟨hl1, hl2, lb, hla, hlc⟩ := lits_at HLL.out HN.out (by omega)
            unfold maxLen at hl2
            subst hla
            have hl := hlc wr [] KQ.out (by simp) j f hf
            have h0 := (HR.out.kept KQ.out).fields.1
            rw [HN.out] at h0
            have hfo := fieldOpen_any wr nb lb len0 lc j fb cap f oa on oc hjl hl h0 co
            have HFO := Lib.hid hfo; clear hfo hlc hl h0 co hff hzz hf hz hjf hjz
            have HXX := Lib.hid hX; clear hX hzm
            go_wp2_with fail
            refine HFO.out.mono ?_
            rintro e w5 ⟨rfl, rfl⟩
            go_wp2_with fail
            refine (HO.out _ (Kept.refl _ _)).mono ?_
            rintro e w5 ⟨⟨sa, sn, sc⟩, rfl, hsn, k5⟩
            have RS := Lib.hid (Snp.rdz (show Snp w5 _ (.slice sa sn sc) _ from hsn)); clear hsn
            have K5 := Lib.hid k5; clear k5
            dsimp only [Trip.val]
            go_wp2_with fail
            refine (zzEndsClean_any _ _ _ _ z.2.1 RS.out).mono ?_
            rintro e w6 ⟨rfl, rfl⟩
            obtain ⟨N1, hN1⟩ : ∃ B, endsC z.2.1 = B := ⟨_, rfl⟩
            rw [hN1]
            clear hN1
            cases N1
            · go_wp2_with fail
              refine (zzHasNewline_any _ _ _ _ z.2.1 RS.out).mono ?_
              rintro e w7 ⟨rfl, k7⟩
              have K7 := Lib.hid ((KQ.out.trans K5.out).trans k7); clear k7
              rw [HXX.out]
              go_wp2_with fail
              exact ⟨⟨j + 1, _, by omega, rfl, rfl, by go_num, K7.out⟩, by simp [intOf]; omega⟩
            go_wp2_with fail
            refine (zzHasNewline_any _ _ _ _ z.2.1 RS.out).mono ?_
            rintro e w7 ⟨rfl, k7⟩
            have K7 := Lib.hid ((KQ.out.trans K5.out).trans k7); clear k7
            rw [HXX.out]
            go_wp2_with fail
            exact ⟨⟨j + 1, _, by omega, rfl, rfl, by go_num, K7.out⟩, by simp [intOf]; omega⟩
          · obtain rfl : j = len0 := by omega
            cases N
            · go_wp2_with fail
              go_ret
              exact ⟨rfl, BL.out.trans (KQ.out.below hsz (by simp))⟩
            go_wp2_with fail
            go_ret
            exact ⟨rfl, BL.out.trans (KQ.out.below hsz (by simp))⟩
end fnObjectCompAllOrNone
end Go.Proofs.YtgdipdbmllkckaaFmt
