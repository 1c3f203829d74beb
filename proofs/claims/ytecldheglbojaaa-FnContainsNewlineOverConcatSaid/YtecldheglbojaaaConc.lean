/- The walk of the law FnContainsNewlineOverConcat: it returns true at every two slices of ints, and writes nothing that was there. -/
import Derived.Test.YtecldheglbojaaaHasNL
namespace Go.Proofs.Ytecldheglbojaaa
open Go.ChangeShapes Go.WideShapes Go.ChangeAt Go.RowKit

set_option maxHeartbeats 400000 in
theorem zzBytes_Conc (w : World) (a : Option Addr) (len cap : Nat) (a1 : Option Addr) (len1 cap1 : Nat) (h : len ≤ 9223372036854775807) (h1 : len1 ≤ 9223372036854775807) :
    Calls Try.prog 16 #[.slice a len cap, .slice a1 len1 cap1] w (SomeBool w) := by
  go_enter Try.func16, Try.ntmps16
  go_wp2
  all_goals
    go_ret
    exact ⟨_, rfl, rfl⟩

theorem anyNL_append (l m : List FE) : anyNL (l ++ m) = (anyNL l || anyNL m) := by simp [anyNL]

namespace fnContainsNewlineOverConcat
set_option maxRecDepth 100000 in
set_option maxHeartbeats 1000000 in
theorem walk (a0 : Option Addr) (len0 cap0 : Nat) (z0 : List Int) (a1 : Option Addr) (len1 cap1 : Nat) (z1 : List Int) (w : World) (w0 : IsRow .i64 w a0 len0 cap0 z0) (w1 : IsRow .i64 w a1 len1 cap1 z1) :
    Calls Try.prog 7 #[.slice a0 len0 cap0, .slice a1 len1 cap1] w fun e w' => e = .returned (.bool true) ∧ Below w.heap.size w w' := by
  obtain ⟨hlc, hcm, hzl, _, hcell⟩ := w0.open
  obtain ⟨hlc1, hcm1, hzl1, _, hcell1⟩ := w1.open
  unfold maxLen at hcm hcm1
  have hb0 : len0 ≤ 9223372036854775807 := by omega
  have hb1 : len1 ≤ 9223372036854775807 := by omega
  have W0 := Lib.hid w0; clear w0
  have W1 := Lib.hid w1; clear w1
  have HZ := Lib.hid hzl; clear hzl
  have HZ1 := Lib.hid hzl1; clear hzl1
  have HC := Lib.hid hcell; clear hcell
  have HC1 := Lib.hid hcell1; clear hcell1
  have hzz : ∃ zz, zz = z0.take len0 ++ z1.take len1 := ⟨_, rfl⟩
  obtain ⟨zz, hzz⟩ := hzz
  have hl0 : (z0.take len0).length = len0 := by rw [List.length_take, HZ.out]; omega
  have hl1 : (z1.take len1).length = len1 := by rw [List.length_take, HZ1.out]; omega
  have hzlen : zz.length = len0 + len1 := by rw [hzz, List.length_append, hl0, hl1]
  have hg0 : ∀ i, i < len0 → zz.getD i 0 = z0.getD i 0 := by
    intro i hi
    rw [hzz, List.getD_eq_getElem?_getD, List.getElem?_append_left (by omega), List.getElem?_take, if_pos hi, List.getD_eq_getElem?_getD]
  have hg1 : ∀ i, i < len1 → zz.getD (len0 + i) 0 = z1.getD i 0 := by
    intro i hi
    rw [hzz, List.getD_eq_getElem?_getD, List.getElem?_append_right (by omega), hl0, Nat.add_sub_cancel_left, List.getElem?_take, if_pos hi, List.getD_eq_getElem?_getD]
  have hall : (zz.take (len0 + len1)).map mkK = (z0.take len0).map mkK ++ (z1.take len1).map mkK := by
    rw [← hzlen, List.take_length, hzz, List.map_append]
  have HL := Lib.hid hzlen; clear hzlen
  have HG0 := Lib.hid hg0; clear hg0
  have HG1 := Lib.hid hg1; clear hg1
  have HA := Lib.hid hall; clear hall
  clear hzz hl0 hl1
  obtain ⟨i0, hi, hz0, hz1, hz2⟩ := info_parts Try.infoFE
  have HI := Lib.hid hi; clear hi
  have HI0 := Lib.hid hz0; clear hz0
  have HI1 := Lib.hid hz1; clear hz1
  have HI2 := Lib.hid hz2; clear hz2
  go_enter Try.func7, Try.ntmps7
  go_wp2_with fail
  refine (zzBytes_Conc _ _ _ _ _ _ _ hb0 hb1).mono ?_
  rintro e w' ⟨b, rfl, rfl⟩
  cases b
  · go_wp2_with fail
    go_ret
    exact ⟨rfl, Below.refl _ _⟩
  by_cases h2 : 65536 < len0
  · go_wp2_with fail
    go_ret
    exact ⟨rfl, Below.refl _ _⟩
  by_cases h3 : 65536 < len1
  · go_wp2_with fail
    go_ret
    exact ⟨rfl, Below.refl _ _⟩
  go_wp2_with fail
  refine (zzFodder_any _ _ _ _ z0 W0.out (by omega)).mono ?_
  rintro e w1 ⟨va, rfl, hf1, hb1⟩
  have HF1 := Lib.hid hf1; clear hf1
  go_wp2_with fail
  refine (zzFodder_any _ _ _ _ z1 ((Kept.of_below hb1 (Nat.le_refl _) []).ints W1.out (by simp)) (by omega)).mono ?_
  rintro e w2 ⟨vb, rfl, hf2, hb2⟩
  have HF2 := Lib.hid hf2; clear hf2
  have HF1' := Lib.hid (HF1.out.below hb2 (Nat.le_refl _)); clear HF1
  have hs1 := hb1.size
  have hs2 := hb2.size
  have hb12 : Below w.heap.size w w2 := hb1.trans (hb2.mono hs1)
  clear hb1 hb2
  go_wp2_with (at_make; refine wpList_make_full _ rfl _ _ 25 rfl w2.heap.size 43 i0 _ 4 Try.underlying25 HI.out HI0.out HI1.out .i64 .i64 ((len0 : Int) + (len1 : Int)) ((len0 : Int) + (len1 : Int)) (len0 + len1) rfl rfl (by omega) (by omega) ?b2 ?b3 (Nat.le_refl _) ?_)
  case b2 => rw [HI2.out]; omega
  case b3 => unfold maxLen; omega
  intro w3 hown hgrow
  have hf : Fod w3 w2.heap.size (.slice (some ⟨w2.heap.size, 0, none⟩) (len0 + len1) (len0 + len1)) (kTo zz (len0 + len1) 0) := by
    unfold Fod
    rw [kTo_length, kTo_zero, ← made_flat]
    exact hown
  have hb : Below w2.heap.size w2 w3 := (Below.refl _ _).grown hgrow (Nat.le_refl _) (by simp)
  clear hown hgrow
  have HF := Lib.hid hf; clear hf
  have hs3 := hb.size
  have hb3 : Below w.heap.size w w3 := hb12.trans (hb.mono (by omega))
  have hva : ∀ g, va.ownBlock = some g → g ∉ [w2.heap.size] := by
    intro g hg hm
    have := (World.ownsRow.lt HF1'.out g hg).2
    simp at hm
    omega
  have hvb : ∀ g, vb.ownBlock = some g → g ∉ [w2.heap.size] := by
    intro g hg hm
    have := (World.ownsRow.lt HF2.out g hg).2
    simp at hm
    omega
  have HVA := Lib.hid hva; clear hva
  have HVB := Lib.hid hvb; clear hvb
  have HFa := Lib.hid (HF1'.out.below hb (Nat.le_refl _)); clear HF1'
  have HFb := Lib.hid (HF2.out.below hb (Nat.le_refl _)); clear HF2
  clear hb hb12
  go_wp2_with fail
  go_loopw [8] (fun i wr => ∃ m : Nat, m ≤ len0 ∧ i = .int .i64 m ∧ Fod wr w2.heap.size (.slice (some ⟨w2.heap.size, 0, none⟩) (len0 + len1) (len0 + len1)) (kTo zz (len0 + len1) m) ∧ Kept [w2.heap.size] w3 wr) (fun i _ => len0 - (intOf i).toNat)
  case atStart => exact ⟨0, Nat.zero_le _, rfl, HF.out, Kept.refl _ _⟩
  case round =>
    clear HF
    obtain ⟨m, hm, rfl, hf, hkp⟩ := hrel
    have HKP := Lib.hid hkp; clear hkp
    by_cases hlt : m < len0
    · obtain ⟨b, o, rfl, hbl, hc⟩ := HC.out m hlt
      have hcm := HKP.out.cell ((hb3.cell (p := ⟨b, o + m, none⟩) hbl).trans (hc m (by omega))) (by simp; omega)
      obtain ⟨e, he, c0, c1, c2, c3⟩ := hf.cells m (by rw [kTo_length]; omega)
      have hfr := hf.frozen (m * 4 + 1)
      rw [kTo_get zz _ m (by omega)] at he
      obtain rfl : FE.zero = e := by simpa using he
      have hf' := hf.set m FE.zero { FE.zero with k := zz.getD m 0 } (kTo_get zz _ m (by omega)) 1 (by omega) (.int .i64 (zz.getD m 0)) rfl
      rw [kTo_set zz _ m (by omega), HG0.out m hlt] at hf'
      generalize z0.getD m 0 = zm at *
      have HF := Lib.hid hf'; clear hf' hf he hc
      clear c0 c2 c3
      go_wp2_with fail
      go_roundw
      case rel => exact ⟨m + 1, by omega, by go_num, HF.out, HKP.out.setCell (Or.inl (by simp)) _⟩
      case measure => simp [intOf]; omega
    · obtain rfl : m = len0 := by omega
      have HF := Lib.hid hf; clear hf
      obtain ⟨wo, rfl⟩ : ∃ wo : World, wo = wr := ⟨_, rfl⟩
      clear hlt hm
      go_wp2_with fail
      go_loopw [9] (fun i wr => ∃ j : Nat, j ≤ len1 ∧ i = .int .i64 j ∧ Fod wr w2.heap.size (.slice (some ⟨w2.heap.size, 0, none⟩) (m + len1) (m + len1)) (kTo zz (m + len1) (m + j)) ∧ Kept [w2.heap.size] w3 wr) (fun i _ => len1 - (intOf i).toNat)
      case atStart => exact ⟨0, Nat.zero_le _, rfl, HF.out, HKP.out⟩
      case round =>
        clear HF HKP
        obtain ⟨j, hj, rfl, hf, hkp⟩ := hrel
        have HKP := Lib.hid hkp; clear hkp
        by_cases hlt : j < len1
        · obtain ⟨b, o, rfl, hbl, hc⟩ := HC1.out j hlt
          have hcm := HKP.out.cell ((hb3.cell (p := ⟨b, o + j, none⟩) hbl).trans (hc j (by omega))) (by simp; omega)
          obtain ⟨e, he, c0, c1, c2, c3⟩ := hf.cells (m + j) (by rw [kTo_length]; omega)
          have hfr := hf.frozen ((m + j) * 4 + 1)
          rw [kTo_get zz _ (m + j) (by omega)] at he
          obtain rfl : FE.zero = e := by simpa using he
          have hf' := hf.set (m + j) FE.zero { FE.zero with k := zz.getD (m + j) 0 } (kTo_get zz _ (m + j) (by omega)) 1 (by omega) (.int .i64 (zz.getD (m + j) 0)) rfl
          rw [kTo_set zz _ (m + j) (by omega), HG1.out j hlt] at hf'
          generalize z1.getD j 0 = zm at *
          have HF := Lib.hid hf'; clear hf' hf he hc
          clear c0 c2 c3
          go_wp2_with fail
          go_roundw
          case rel => exact ⟨j + 1, by omega, by go_num, HF.out, HKP.out.setCell (Or.inl (by simp)) _⟩
          case measure => simp [intOf]; omega
        · obtain rfl : j = len1 := by omega
          rw [kTo_full zz _ (by rw [HL.out]; omega), HA.out] at hf
          have HF := Lib.hid hf; clear hf
          have HFa2 := Lib.hid (HFa.out.kept HKP.out HVA.out)
          have HFb2 := Lib.hid (HFb.out.kept HKP.out HVB.out)
          have hs4 := HKP.out.size
          have HB4 : Below w.heap.size w wr := hb3.trans (HKP.out.below (by omega) (by simp; omega))
          clear HFa HFb HKP hb3 HA
          generalize (z0.take m).map mkK = A at *
          generalize (z1.take j).map mkK = B at *
          have hap := Lib.hid (anyNL_append A B)
          go_wp2_with fail
          refine (ZZContainsNewline_any _ _ _ _ HF.out).mono ?_
          rintro e w5 ⟨rfl, hb5⟩
          go_wp2_with fail
          refine (ZZContainsNewline_any _ _ _ _ (HFa2.out.below hb5 (Nat.le_refl _))).mono ?_
          rintro e w6 ⟨rfl, hb6⟩
          have hs5 := hb5.size
          have hs6 := hb6.size
          cases hA : anyNL A
          · go_wp2_with fail
            refine (ZZContainsNewline_any _ _ _ _ ((HFb2.out.below hb5 (Nat.le_refl _)).below hb6 (Nat.le_refl _))).mono ?_
            rintro e w7 ⟨rfl, hb7⟩
            go_wp2_with fail
            go_ret
            exact ⟨by simp [hap.out, hA], ((HB4.trans (hb5.mono (by omega))).trans (hb6.mono (by omega))).trans (hb7.mono (by omega))⟩
          · go_wp2_with fail
            go_ret
            exact ⟨by simp [hap.out, hA], (HB4.trans (hb5.mono (by omega))).trans (hb6.mono (by omega))⟩
end fnContainsNewlineOverConcat
end Go.Proofs.Ytecldheglbojaaa
