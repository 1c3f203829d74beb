/- The walk of the law FnShouldExpandSpecIsOrOverLevels: it returns true at every list of levels, and writes nothing that was there. -/
import Derived.Test.YtgpefdmgcigajaaFmtP2
import Derived.Test.YtgpefdmgcigajaaFmtZB
namespace Go.Proofs.YtgpefdmgcigajaaFmt
open Go.ChangeShapes Go.WideShapes Go.ChangeAt Go.RowKit

namespace fnShouldExpandSpecIsOrOverLevels
set_option maxRecDepth 100000 in
set_option maxHeartbeats 8000000 in
theorem walk (a0 : Option Addr) (len0 cap0 : Nat) (z0 : List SE) (w : World) (w0 : RdS w a0 len0 cap0 z0) :
    Calls Tryf.prog 7 #[.slice a0 len0 cap0] w fun e w' => e = .returned (.bool true) ∧ Below w.heap.size w w' := by
  have hle := w0.le
  have htop := w0.top
  have hdl := w0.len
  unfold maxLen at htop
  have HDL := Lib.hid hdl; clear hdl
  have H := Lib.hid w0; clear w0
  go_enter Tryf.func7, Tryf.ntmps7
  go_wp2_with fail
  refine (zzBytes_FnShouldExpandSpecIsOrOverLevels_any _ _ _ _ z0 H.out).mono ?_
  rintro e w1 ⟨b, rfl, k1, hsm⟩
  have K1 := Lib.hid k1; clear k1
  cases b
  · clear hsm
    go_wp2_with fail
    go_ret
    exact ⟨rfl, K1.out.below (Nat.le_refl _) (by simp)⟩
  obtain ⟨hlen, hsm⟩ := hsm rfl
  have HSM := Lib.hid hsm; clear hsm
  go_wp2_with fail
  refine (zzSpecsBytes_any _ _ _ _ z0 (H.out.kept0 K1.out)).mono ?_
  rintro e w2 ⟨n2, rfl, k2⟩
  have K2 := Lib.hid (K1.out.trans k2); clear k2
  by_cases hn2 : 1048576 < n2
  · go_wp2_with fail
    go_ret
    exact ⟨rfl, K2.out.below (Nat.le_refl _) (by simp)⟩
  go_wp2_with fail
  refine (zzIntIs64_any _).mono ?_
  rintro e w2' ⟨rfl, rfl⟩
  by_cases h0 : len0 = 0
  · subst h0
    go_wp2_with fail
    go_ret
    exact ⟨rfl, K2.out.below (Nat.le_refl _) (by simp)⟩
  have h0' : ((len0 : Int) == 0) = false := by simpa using h0
  go_wp2_with fail
  refine (zzSpecsOK_any _ _ _ _ z0 (H.out.kept0 K2.out)).mono ?_
  rintro e w3 ⟨b, rfl, k3, hgd⟩
  have K3 := Lib.hid (K2.out.trans k3); clear k3
  cases b
  · clear hgd
    go_wp2_with fail
    go_ret
    exact ⟨rfl, K3.out.below (Nat.le_refl _) (by simp)⟩
  have HGD := Lib.hid (hgd rfl); clear hgd
  have hpos : 0 < len0 := by omega
  have HPOS : Hid (0 < z0.length) := Lib.hid (by rw [HDL.out]; exact hpos)
  go_wp2_with fail
  refine (zzBuildSpec_any _ _ _ _ z0 (H.out.kept0 K3.out) hlen hpos HGD.out HSM.out).mono ?_
  intro e w4 hch
  obtain ⟨va, vn, vc, ca, cm, cc, po, x, rfl, k4, hsh⟩ := should_of hch HPOS.out HGD.out HSM.out
  have K4 := Lib.hid (K3.out.trans k4); clear k4 hch
  unfold lvlOf at hsh ⊢
  have HSH := Lib.hid hsh; clear hsh
  go_wp2_with fail
  refine (HSH.out _ (Kept.refl _ _)).mono ?_
  rintro e w5 ⟨rfl, k5⟩
  have K5 := Lib.hid (K4.out.trans k5); clear k5
  obtain ⟨B, hB⟩ : ∃ B, specsNL z0 = B := ⟨_, rfl⟩
  rw [hB]
  have HB := Lib.hid hB; clear hB
  go_wp2_with fail
  go_loopw [4, 5] (fun c i wr => ∃ k : Nat, k ≤ len0 ∧ i = .int .i64 k ∧ c = .bool (specsNL (z0.take k)) ∧ Kept [] w wr) (fun _ i _ => len0 - (intOf i).toNat)
  case atStart => exact ⟨0, Nat.zero_le _, rfl, rfl, K5.out⟩
  case round =>
    obtain ⟨k, hk, rfl, rfl, hq⟩ := hrel
    have HQ := Lib.hid hq; clear hq
    by_cases hlt : k < len0
    · obtain ⟨b, o, s, _, _, _, _, _, _, hs, rfl, hbl, -⟩ := (H.out.kept0 HQ.out).sp k hlt
      have hsub := Rd.sub (H.out.kept0 HQ.out) k (k + 1) (by omega) (by omega)
      have hone : (z0.drop k).take (k + 1 - k) = [s] := by
        have hkz : k < z0.length := by rw [HDL.out]; exact hlt
        rw [List.getElem?_eq_getElem hkz] at hs
        have hz : z0[k] = s := by simpa using hs
        rw [Nat.add_sub_cancel_left, List.drop_eq_getElem_cons hkz, hz]
        rfl
      rw [hone, Nat.add_sub_cancel_left] at hsub
      have hstep : specsNL (z0.take (k + 1)) = (specsNL (z0.take k) || spNL s) := by
        rw [take_snoc hs]
        unfold specsNL
        rw [List.any_append]
        simp
      have hsg : ∀ x ∈ [s], GoodSp x := fun x hx => by simp at hx; subst hx; exact HGD.out _ (List.mem_of_getElem? hs)
      have hss : ∀ x ∈ [s], SmallE x := fun x hx => by simp at hx; subst hx; exact HSM.out _ (List.mem_of_getElem? hs)
      have HSUB := Lib.hid hsub; clear hsub hone
      have HSTEP := Lib.hid hstep; clear hstep
      have HSG := Lib.hid hsg; clear hsg
      have HSS := Lib.hid hss; clear hss
      clear hs
      obtain ⟨E, hE⟩ : ∃ E, specsNL (z0.take k) = E := ⟨_, rfl⟩
      rw [hE]
      have HE := Lib.hid hE; clear hE
      have i1 : (0 : Int) ≤ (k : Int) := by omega
      have i2 : (k : Int) + 1 ≤ (len0 : Int) := by omega
      have i3 : (k : Int) + 1 ≤ (cap0 : Int) := by omega
      go_wp2_with fail
      refine (zzBuildSpec_any _ _ _ _ [s] HSUB.out (by omega) (by omega) HSG.out HSS.out).mono ?_
      intro e w6 hch
      obtain ⟨ua, un, uc, da, dm, dc, qo, y, rfl, k6, hsh⟩ := should_of hch (by simp) HSG.out HSS.out
      have K6 := Lib.hid (HQ.out.trans k6); clear k6 hch
      unfold lvlOf at hsh ⊢
      have HSH := Lib.hid hsh; clear hsh
      go_wp2_with fail
      refine (HSH.out _ (Kept.refl _ _)).mono ?_
      rintro e w7 ⟨rfl, k7⟩
      have K7 := Lib.hid (K6.out.trans k7); clear k7
      have h1 : specsNL [s] = spNL s := by unfold specsNL; simp
      rw [h1]
      clear h1
      obtain ⟨S, hS⟩ : ∃ S, spNL s = S := ⟨_, rfl⟩
      rw [hS]
      have HS := Lib.hid hS; clear hS
      cases S
      · go_wp2_with fail
        exact ⟨⟨k + 1, by omega, by go_num, by rw [HSTEP.out, HE.out, HS.out, Bool.or_false], K7.out⟩, by simp [intOf]; omega⟩
      · go_wp2_with fail
        exact ⟨⟨k + 1, by omega, by go_num, by rw [HSTEP.out, HE.out, HS.out, Bool.or_true], K7.out⟩, by simp [intOf]; omega⟩
    · obtain rfl : k = len0 := by omega
      have hfin : specsNL (z0.take k) = B := by rw [← HDL.out, List.take_length]; exact HB.out
      rw [hfin]
      clear hfin
      go_wp2_with fail
      go_ret
      exact ⟨by simp, HQ.out.below (Nat.le_refl _) (by simp)⟩
end fnShouldExpandSpecIsOrOverLevels
end Go.Proofs.YtgpefdmgcigajaaFmt
