/- The walk of the law FnFixCommaExactSpec: it returns true at every flag and two slices of codes, and writes nothing that was there. -/
import Derived.Test.YtinaihfbakkcmaaFmtZzE
import Derived.Test.YtinaihfbakkcmaaFmtRmC
namespace Go.Proofs.YtinaihfbakkcmaaFmt
open Go.ChangeShapes Go.WideShapes Go.ChangeAt Go.RowKit

/-- Would a fodder slide before one that opens a line? -/
def risk (sl : Bool) (n1 n2 : Nat) (z2 : List Int) : Bool := sl && (decide (0 < n1) && (decide (0 < n2) && (ck (z2.getD 0 0) != 1)))

set_option maxRecDepth 100000 in
set_option maxHeartbeats 1000000 in
theorem zzMergeRisk_any (w : World) (sl : Bool) (a1 : Option Addr) (n1 cap1 : Nat) (a2 : Option Addr) (n2 cap2 : Nat) (z2 : List Int) (h2 : IsRow .i32 w a2 n2 cap2 z2) (hn1 : n1 ≤ 65536) (hn2 : n2 ≤ 65536) :
    Calls Tryf.prog 11 #[.bool sl, .slice a1 n1 cap1, .slice a2 n2 cap2] w fun e w' => e = .returned (.bool (risk sl n1 n2 z2)) ∧ w = w' := by
  obtain ⟨hlc2, hcm2, hzl2, _, hcell2⟩ := h2.open
  clear h2
  have HC := Lib.hid hcell2; clear hcell2
  obtain ⟨R, hR⟩ : ∃ R, risk sl n1 n2 z2 = R := ⟨_, rfl⟩
  rw [hR]
  cases sl
  · obtain rfl : false = R := hR
    go_enter Tryf.func11, Tryf.ntmps11
    go_wp2_with fail
    go_ret
    exact ⟨rfl, rfl⟩
  by_cases h1 : 0 < n1
  · by_cases h3 : 0 < n2
    · obtain ⟨b, o, rfl, hbl, hc⟩ := HC.out 0 h3
      have hcm := hc 0 (by omega)
      obtain ⟨v, hv⟩ : ∃ v, z2.getD 0 0 = v := ⟨_, rfl⟩
      rw [hv] at hcm
      rw [Nat.add_zero] at hcm
      have hR' : (ck v != 1) = R := by rw [← hR]; simp [risk, h1, h3, ← hv]
      have HR := Lib.hid hR'; clear hR hR' hc hv
      have h1' : (0 : Int) < (n1 : Int) := by omega
      have h3' : (0 : Int) < (n2 : Int) := by omega
      go_enter Tryf.func11, Tryf.ntmps11
      go_wp2_with fail
      refine (zzKind_any _ v).mono ?_
      rintro e w' ⟨rfl, rfl⟩
      obtain ⟨c, hc⟩ : ∃ c, ck v = c := ⟨_, rfl⟩
      rw [hc]
      have hcR := HR.out
      rw [hc] at hcR
      clear hc
      have HR2 := Lib.hid hcR; clear hcR
      go_wp2_with fail
      go_ret
      exact ⟨by rw [← HR2.out]; rfl, rfl⟩
    · obtain rfl : n2 = 0 := by omega
      obtain rfl : false = R := by rw [← hR]; simp [risk]
      clear hR
      have h1' : (0 : Int) < (n1 : Int) := by omega
      go_enter Tryf.func11, Tryf.ntmps11
      go_wp2_with fail
      go_ret
      exact ⟨rfl, rfl⟩
  · obtain rfl : n1 = 0 := by omega
    obtain rfl : false = R := by rw [← hR]; simp [risk]
    clear hR
    go_enter Tryf.func11, Tryf.ntmps11
    go_wp2_with fail
    go_ret
    exact ⟨rfl, rfl⟩

/-- Where there is no risk the join is the two, one behind the other. -/
theorem conc_plain {z1 z2 : List Int} {n1 n2 : Nat} {l : List FE} (hz1 : n1 ≤ z1.length) (hz2 : n2 ≤ z2.length) (hr : risk true n1 n2 z2 = false) (h : Conc ((z1.take n1).map cfe) ((z2.take n2).map cfe) l) :
    l = (z1.take n1).map cfe ++ (z2.take n2).map cfe := by
  rcases h with ⟨h1, rfl⟩ | ⟨h1, rfl⟩ | ⟨x, t, m, h0, hb, hs, rfl⟩
  · rw [h1]; rfl
  · rw [h1, List.append_nil]
  · have hn1 : 0 < n1 := by
      rcases Nat.eq_zero_or_pos n1 with h | h
      · subst h; simp at h0
      · exact h
    have hn2 : 0 < n2 := by
      rcases Nat.eq_zero_or_pos n2 with h | h
      · subst h; simp at hb
      · exact h
    have hx : x = cfe (z2.getD 0 0) := by
      have : ((z2.take n2).map cfe)[0]? = some x := by rw [hb]; rfl
      rw [List.getElem?_map, List.getElem?_take, if_pos hn2, List.getElem?_eq_getElem (by omega)] at this
      rw [List.getD_eq_getElem?_getD, List.getElem?_eq_getElem (show 0 < z2.length by omega)]
      simpa using this.symm
    have hk : x.k = 1 := by
      simp [risk, hn1, hn2] at hr
      rw [hx]
      exact hr
    have hm : m = (z1.take n1).map cfe ++ [x] := by
      rcases hs with ⟨_, hk0, _⟩ | ⟨_, hk2, _⟩ | ⟨_, _, h⟩
      · rw [hk] at hk0; cases hk0
      · rw [hk] at hk2; cases hk2
      · exact h
    rw [hm, hb]
    simp

theorem codes_same (z : List Int) (n : Nat) (j : Nat) (x : FE) (hz : n ≤ z.length) (hj : j < n) (hx : ((z.take n).map cfe)[j]? = some x) : SameE x (cfe (z.getD j 0)) := by
  rw [List.getElem?_map, List.getElem?_take, if_pos hj, List.getElem?_eq_getElem (by omega)] at hx
  rw [List.getD_eq_getElem?_getD, List.getElem?_eq_getElem (show j < z.length by omega)]
  simp at hx
  subst hx
  exact ⟨rfl, rfl, rfl, rfl, rfl⟩

set_option maxHeartbeats 400000 in
theorem zzBytes_FxE (w : World) (b : Bool) (a : Option Addr) (len cap : Nat) (a1 : Option Addr) (len1 cap1 : Nat) (h : len ≤ 9223372036854775807) (h1 : len1 ≤ 9223372036854775807) :
    Calls Tryf.prog 25 #[.bool b, .slice a len cap, .slice a1 len1 cap1] w (SomeBool w) := by
  go_enter Tryf.func25, Tryf.ntmps25
  go_wp2
  all_goals
    go_ret
    exact ⟨_, rfl, rfl⟩

namespace fnFixCommaExactSpec
set_option maxRecDepth 100000 in
set_option maxHeartbeats 8000000 in
theorem walk (a0 : Bool) (a1 : Option Addr) (len1 cap1 : Nat) (z1 : List Int) (a2 : Option Addr) (len2 cap2 : Nat) (z2 : List Int) (w : World) (w1 : IsRow .i32 w a1 len1 cap1 z1) (w2 : IsRow .i32 w a2 len2 cap2 z2) :
    Calls Tryf.prog 7 #[.bool a0, .slice a1 len1 cap1, .slice a2 len2 cap2] w fun e w' => e = .returned (.bool true) ∧ Below w.heap.size w w' := by
  obtain ⟨hlc, hcm, hzl, _, hcell⟩ := w1.open
  obtain ⟨hlc1, hcm1, hzl1, _, hcell1⟩ := w2.open
  unfold maxLen at hcm hcm1
  have hb0 : len1 ≤ 9223372036854775807 := by omega
  have hb1 : len2 ≤ 9223372036854775807 := by omega
  have hz1 : len1 ≤ z1.length := by omega
  have hz2 : len2 ≤ z2.length := by omega
  have W1 := Lib.hid w1; clear w1
  have W2 := Lib.hid w2; clear w2
  have HZ1 := Lib.hid hz1; clear hz1
  have HZ2 := Lib.hid hz2; clear hz2
  clear hcell hcell1 hzl hzl1
  go_enter Tryf.func7, Tryf.ntmps7
  go_wp2_with fail
  refine (zzBytes_FxE _ _ _ _ _ _ _ _ hb0 hb1).mono ?_
  rintro e w' ⟨b, rfl, rfl⟩
  cases b
  · go_wp2_with fail
    go_ret
    exact ⟨rfl, Below.refl _ _⟩
  by_cases h2 : 65536 < len1
  · go_wp2_with fail
    go_ret
    exact ⟨rfl, Below.refl _ _⟩
  by_cases h3 : 65536 < len2
  · go_wp2_with fail
    go_ret
    exact ⟨rfl, Below.refl _ _⟩
  go_wp2_with fail
  refine (zzCodesBreak_any _ _ _ _ z1 W1.out).mono ?_
  rintro e w' ⟨rfl, rfl⟩
  obtain ⟨L1, hL1⟩ : ∃ L1, (z1.take len1).map cfe = L1 := ⟨_, rfl⟩
  obtain ⟨L2, hL2⟩ : ∃ L2, (z2.take len2).map cfe = L2 := ⟨_, rfl⟩
  have hP1 : Plain L1 := hL1 ▸ Plain.cfe _
  have hP2 : Plain L2 := hL2 ▸ Plain.cfe _
  have hl1 : L1.length = len1 := by rw [← hL1, List.length_map, List.length_take]; have := HZ1.out; omega
  have hl2 : L2.length = len2 := by rw [← hL2, List.length_map, List.length_take]; have := HZ2.out; omega
  have hN1 : L1.length ≤ 65536 := by omega
  have hN2 : L2.length ≤ 65536 := by omega
  have HL1 := Lib.hid hL1; clear hL1
  have HL2 := Lib.hid hL2; clear hL2
  have HP1 := Lib.hid hP1; clear hP1
  have HP2 := Lib.hid hP2; clear hP2
  have HE1 := Lib.hid hl1; clear hl1
  have HE2 := Lib.hid hl2; clear hl2
  rw [HL1.out]
  obtain ⟨A, hA⟩ : ∃ A, anyNL L1 = A := ⟨_, rfl⟩
  obtain ⟨C, hC⟩ : ∃ C, anyNL L2 = C := ⟨_, rfl⟩
  rw [hA]
  have HA := Lib.hid hA; clear hA
  have HC := Lib.hid hC; clear hC
  cases A <;> cases C <;> cases a0
  · go_wp2_with fail
    refine (zzCodesBreak_any _ _ _ _ z2 W2.out).mono ?_
    rintro e w' ⟨rfl, rfl⟩
    rw [HL2.out, HC.out]
    go_wp2_with fail
    refine (zzMergeRisk_any _ false _ _ _ _ _ _ z2 W2.out (by omega) (by omega)).mono ?_
    rintro e w' ⟨rfl, rfl⟩
    rw [show risk false len1 len2 z2 = false from rfl]
    go_wp2_with fail
    refine (zzFodder_any _ _ _ _ z1 W1.out (by omega)).mono ?_
    rintro e w1 ⟨v1, rfl, hf1, hk1⟩
    rw [HL1.out] at hf1
    obtain ⟨b1, c1, rfl, -⟩ := hf1.slice
    have HF1 := Lib.hid hf1; clear hf1
    have HK1 := Lib.hid hk1; clear hk1
    go_wp2_with fail
    refine (zzFodder_any _ _ _ _ z2 ((HK1.out.alloc _).ints W2.out (by simp)) (by omega)).mono ?_
    rintro e w2 ⟨v2, rfl, hf2, hk2⟩
    rw [HL2.out, show (w1.alloc (.cells #[.slice b1 L1.length c1] 29)).heap.size = w1.heap.size + 1 by simp] at hf2
    obtain ⟨b2, c2, rfl, -⟩ := hf2.slice
    have htwo := two_new false (Nat.le_refl _) HF1.out HK1.out hf2 hk2
    have hs1 := HK1.out.size
    have hs2 := hk2.size
    rw [show (w1.alloc (.cells #[.slice b1 L1.length c1] 29)).heap.size = w1.heap.size + 1 by simp] at hs2
    have hkk : Kept [] w ((w2.alloc (.cells #[.slice b2 L2.length c2] 29)).alloc (.cells #[.bool false] 4)) := (((HK1.out.alloc _).trans hk2).alloc _).alloc _
    have HT := Lib.hid htwo; clear htwo
    have HKK := Lib.hid hkk; clear hkk
    clear hf2 hk2
    go_wp2_with fail
    refine (ZZfixComma_any _ w.heap.size _ _ _ _ _ _ false _ _ L1 L2 HT.out (by omega) (by simp; omega) HP2.out.head).mono ?_
    rintro e w4 ⟨rfl, ll, lc, hrm, vl, vc, ht4, hk4, -, -, -⟩
    have hk5 : Kept [] w w4 := by
      refine HKK.out.then hk4 ?_
      intro k hk
      simp [Value.ownBlock] at hk
      rcases hk with rfl | rfl | rfl | hk
      · exact Or.inr (by omega)
      · exact Or.inr (by omega)
      · exact Or.inr (by omega)
      · have := (World.ownsRow.lt HF1.out k (by cases b1 <;> simp [Value.ownBlock] at hk ⊢; exact hk)).1
        exact Or.inr this
    rw [HA.out, HC.out] at ht4
    have ct := ht4.ct
    have cp := ht4.cp
    have cq := ht4.cq
    obtain ⟨pa, pc, rfl, -⟩ := ht4.l.slice
    obtain ⟨qa, qc, rfl, -⟩ := ht4.c.slice
    have HT4 := Lib.hid ht4; clear ht4
    have hrm2 : ll = L1 ∧ lc = L2 := by
      rcases hrm with ⟨hf, hl, hc⟩ | ⟨hf, hl, hc⟩
      · rw [HA.out, HC.out] at hf; cases hf
      · exact ⟨hl, hc⟩
    obtain ⟨rfl, rfl⟩ := hrm2
    have HK5 := Lib.hid hk5; clear hk5
    clear hrm hk4 HT HKK
    go_wp2_with fail
    refine (zzFodderIsCodes_any _ _ _ _ _ len1 _ z1 none 0 0 [] HT4.out.l (HK5.out.ints W1.out (by simp)) (Or.inl ⟨rfl, rfl, rfl, rfl⟩) HE1.out (by omega) ?_ ?_).mono ?_
    · intro j x hj hx
      rw [← HL1.out] at hx
      exact codes_same z1 len1 j x HZ1.out hj hx
    · intro j x hj; omega
    rintro e w6 ⟨rfl, hk6⟩
    have HK6 := Lib.hid (HK5.out.trans hk6)
    have HC6 := Lib.hid (HT4.out.kept0 hk6)
    have cq6 := HC6.out.cq
    clear hk6
    go_wp2_with fail
    refine (zzFodderIsCodes_any _ _ _ _ _ len2 _ z2 none 0 0 [] HC6.out.c (HK6.out.ints W2.out (by simp)) (Or.inl ⟨rfl, rfl, rfl, rfl⟩) HE2.out (by omega) ?_ ?_).mono ?_
    · intro j x hj hx
      rw [← HL2.out] at hx
      exact codes_same z2 len2 j x HZ2.out hj hx
    · intro j x hj; omega
    rintro e w7 ⟨rfl, hk7⟩
    go_wp2_with fail
    go_ret
    exact ⟨rfl, (HK6.out.trans hk7).below (Nat.le_refl _) (by simp)⟩
  · go_wp2_with fail
    refine (zzCodesBreak_any _ _ _ _ z2 W2.out).mono ?_
    rintro e w' ⟨rfl, rfl⟩
    rw [HL2.out, HC.out]
    go_wp2_with fail
    refine (zzMergeRisk_any _ true _ _ _ _ _ _ z2 W2.out (by omega) (by omega)).mono ?_
    rintro e w' ⟨rfl, rfl⟩
    obtain ⟨R, hR⟩ : ∃ R, risk true len1 len2 z2 = R := ⟨_, rfl⟩
    rw [hR]
    have HR := Lib.hid hR; clear hR
    cases R
    rotate_left 1
    · go_wp2_with fail
      go_ret
      exact ⟨rfl, Below.refl _ _⟩
    go_wp2_with fail
    refine (zzFodder_any _ _ _ _ z1 W1.out (by omega)).mono ?_
    rintro e w1 ⟨v1, rfl, hf1, hk1⟩
    rw [HL1.out] at hf1
    obtain ⟨b1, c1, rfl, -⟩ := hf1.slice
    have HF1 := Lib.hid hf1; clear hf1
    have HK1 := Lib.hid hk1; clear hk1
    go_wp2_with fail
    refine (zzFodder_any _ _ _ _ z2 ((HK1.out.alloc _).ints W2.out (by simp)) (by omega)).mono ?_
    rintro e w2 ⟨v2, rfl, hf2, hk2⟩
    rw [HL2.out, show (w1.alloc (.cells #[.slice b1 L1.length c1] 29)).heap.size = w1.heap.size + 1 by simp] at hf2
    obtain ⟨b2, c2, rfl, -⟩ := hf2.slice
    have htwo := two_new true (Nat.le_refl _) HF1.out HK1.out hf2 hk2
    have hs1 := HK1.out.size
    have hs2 := hk2.size
    rw [show (w1.alloc (.cells #[.slice b1 L1.length c1] 29)).heap.size = w1.heap.size + 1 by simp] at hs2
    have hkk : Kept [] w ((w2.alloc (.cells #[.slice b2 L2.length c2] 29)).alloc (.cells #[.bool true] 4)) := (((HK1.out.alloc _).trans hk2).alloc _).alloc _
    have HT := Lib.hid htwo; clear htwo
    have HKK := Lib.hid hkk; clear hkk
    clear hf2 hk2
    go_wp2_with fail
    refine (ZZfixComma_any _ w.heap.size _ _ _ _ _ _ true _ _ L1 L2 HT.out (by omega) (by simp; omega) HP2.out.head).mono ?_
    rintro e w4 ⟨rfl, ll, lc, hrm, vl, vc, ht4, hk4, -, -, -⟩
    have hk5 : Kept [] w w4 := by
      refine HKK.out.then hk4 ?_
      intro k hk
      simp [Value.ownBlock] at hk
      rcases hk with rfl | rfl | rfl | hk
      · exact Or.inr (by omega)
      · exact Or.inr (by omega)
      · exact Or.inr (by omega)
      · have := (World.ownsRow.lt HF1.out k (by cases b1 <;> simp [Value.ownBlock] at hk ⊢; exact hk)).1
        exact Or.inr this
    rw [HA.out, HC.out] at ht4
    have ct := ht4.ct
    have cp := ht4.cp
    have cq := ht4.cq
    obtain ⟨pa, pc, rfl, -⟩ := ht4.l.slice
    obtain ⟨qa, qc, rfl, -⟩ := ht4.c.slice
    have HT4 := Lib.hid ht4; clear ht4
    have hrm2 : ll = [] ∧ lc = L1 ++ L2 := by
      rcases hrm with ⟨hf, hl, hc⟩ | ⟨hf, hl, hc⟩
      · refine ⟨hl, ?_⟩
        rw [← HL1.out, ← HL2.out] at hc ⊢
        exact conc_plain HZ1.out HZ2.out HR.out hc
      · rw [HA.out, HC.out] at hf; cases hf
    have hz : ((ll.length : Int) == 0) = true := by rw [hrm2.1]; rfl
    have hcl : lc.length ≤ 9223372036854775807 := by rw [hrm2.2, List.length_append]; omega
    have HRM := Lib.hid hrm2; clear hrm2
    have HK5 := Lib.hid hk5; clear hk5
    clear hrm hk4 HT HKK
    go_wp2_with fail
    refine (zzFodderIsCodes_any _ _ _ lc _ len1 _ z1 _ len2 _ z2 HT4.out.c (HK5.out.ints W1.out (by simp)) (HK5.out.ints W2.out (by simp)) (by rw [HRM.out.2, List.length_append, HE1.out, HE2.out]) (by omega) ?_ ?_).mono ?_
    · intro j x hj hx
      rw [HRM.out.2] at hx
      rw [List.getElem?_append_left (by rw [HE1.out]; exact hj), ← HL1.out] at hx
      exact codes_same z1 len1 j x HZ1.out hj hx
    · intro j x hj hx
      rw [HRM.out.2] at hx
      rw [List.getElem?_append_right (by rw [HE1.out]; omega), HE1.out, Nat.add_sub_cancel_left, ← HL2.out] at hx
      exact codes_same z2 len2 j x HZ2.out hj hx
    rintro e w6 ⟨rfl, hk6⟩
    go_wp2_with fail
    go_ret
    exact ⟨rfl, (HK5.out.trans hk6).below (Nat.le_refl _) (by simp)⟩
  · go_wp2_with fail
    refine (zzCodesBreak_any _ _ _ _ z2 W2.out).mono ?_
    rintro e w' ⟨rfl, rfl⟩
    rw [HL2.out, HC.out]
    go_wp2_with fail
    refine (zzMergeRisk_any _ false _ _ _ _ _ _ z2 W2.out (by omega) (by omega)).mono ?_
    rintro e w' ⟨rfl, rfl⟩
    rw [show risk false len1 len2 z2 = false from rfl]
    go_wp2_with fail
    refine (zzFodder_any _ _ _ _ z1 W1.out (by omega)).mono ?_
    rintro e w1 ⟨v1, rfl, hf1, hk1⟩
    rw [HL1.out] at hf1
    obtain ⟨b1, c1, rfl, -⟩ := hf1.slice
    have HF1 := Lib.hid hf1; clear hf1
    have HK1 := Lib.hid hk1; clear hk1
    go_wp2_with fail
    refine (zzFodder_any _ _ _ _ z2 ((HK1.out.alloc _).ints W2.out (by simp)) (by omega)).mono ?_
    rintro e w2 ⟨v2, rfl, hf2, hk2⟩
    rw [HL2.out, show (w1.alloc (.cells #[.slice b1 L1.length c1] 29)).heap.size = w1.heap.size + 1 by simp] at hf2
    obtain ⟨b2, c2, rfl, -⟩ := hf2.slice
    have htwo := two_new false (Nat.le_refl _) HF1.out HK1.out hf2 hk2
    have hs1 := HK1.out.size
    have hs2 := hk2.size
    rw [show (w1.alloc (.cells #[.slice b1 L1.length c1] 29)).heap.size = w1.heap.size + 1 by simp] at hs2
    have hkk : Kept [] w ((w2.alloc (.cells #[.slice b2 L2.length c2] 29)).alloc (.cells #[.bool false] 4)) := (((HK1.out.alloc _).trans hk2).alloc _).alloc _
    have HT := Lib.hid htwo; clear htwo
    have HKK := Lib.hid hkk; clear hkk
    clear hf2 hk2
    go_wp2_with fail
    refine (ZZfixComma_any _ w.heap.size _ _ _ _ _ _ false _ _ L1 L2 HT.out (by omega) (by simp; omega) HP2.out.head).mono ?_
    rintro e w4 ⟨rfl, ll, lc, hrm, vl, vc, ht4, hk4, -, -, -⟩
    have hk5 : Kept [] w w4 := by
      refine HKK.out.then hk4 ?_
      intro k hk
      simp [Value.ownBlock] at hk
      rcases hk with rfl | rfl | rfl | hk
      · exact Or.inr (by omega)
      · exact Or.inr (by omega)
      · exact Or.inr (by omega)
      · have := (World.ownsRow.lt HF1.out k (by cases b1 <;> simp [Value.ownBlock] at hk ⊢; exact hk)).1
        exact Or.inr this
    rw [HA.out, HC.out] at ht4
    have ct := ht4.ct
    have cp := ht4.cp
    have cq := ht4.cq
    obtain ⟨pa, pc, rfl, -⟩ := ht4.l.slice
    obtain ⟨qa, qc, rfl, -⟩ := ht4.c.slice
    have HT4 := Lib.hid ht4; clear ht4
    have hrm2 : ll = L1 ∧ lc = L2 := by
      rcases hrm with ⟨hf, hl, hc⟩ | ⟨hf, hl, hc⟩
      · rw [HA.out, HC.out] at hf; cases hf
      · exact ⟨hl, hc⟩
    obtain ⟨rfl, rfl⟩ := hrm2
    have HK5 := Lib.hid hk5; clear hk5
    clear hrm hk4 HT HKK
    go_wp2_with fail
    refine (zzFodderIsCodes_any _ _ _ _ _ len1 _ z1 none 0 0 [] HT4.out.l (HK5.out.ints W1.out (by simp)) (Or.inl ⟨rfl, rfl, rfl, rfl⟩) HE1.out (by omega) ?_ ?_).mono ?_
    · intro j x hj hx
      rw [← HL1.out] at hx
      exact codes_same z1 len1 j x HZ1.out hj hx
    · intro j x hj; omega
    rintro e w6 ⟨rfl, hk6⟩
    have HK6 := Lib.hid (HK5.out.trans hk6)
    have HC6 := Lib.hid (HT4.out.kept0 hk6)
    have cq6 := HC6.out.cq
    clear hk6
    go_wp2_with fail
    refine (zzFodderIsCodes_any _ _ _ _ _ len2 _ z2 none 0 0 [] HC6.out.c (HK6.out.ints W2.out (by simp)) (Or.inl ⟨rfl, rfl, rfl, rfl⟩) HE2.out (by omega) ?_ ?_).mono ?_
    · intro j x hj hx
      rw [← HL2.out] at hx
      exact codes_same z2 len2 j x HZ2.out hj hx
    · intro j x hj; omega
    rintro e w7 ⟨rfl, hk7⟩
    go_wp2_with fail
    go_ret
    exact ⟨rfl, (HK6.out.trans hk7).below (Nat.le_refl _) (by simp)⟩
  · go_wp2_with fail
    refine (zzCodesBreak_any _ _ _ _ z2 W2.out).mono ?_
    rintro e w' ⟨rfl, rfl⟩
    rw [HL2.out, HC.out]
    go_wp2_with fail
    refine (zzMergeRisk_any _ false _ _ _ _ _ _ z2 W2.out (by omega) (by omega)).mono ?_
    rintro e w' ⟨rfl, rfl⟩
    rw [show risk false len1 len2 z2 = false from rfl]
    go_wp2_with fail
    refine (zzFodder_any _ _ _ _ z1 W1.out (by omega)).mono ?_
    rintro e w1 ⟨v1, rfl, hf1, hk1⟩
    rw [HL1.out] at hf1
    obtain ⟨b1, c1, rfl, -⟩ := hf1.slice
    have HF1 := Lib.hid hf1; clear hf1
    have HK1 := Lib.hid hk1; clear hk1
    go_wp2_with fail
    refine (zzFodder_any _ _ _ _ z2 ((HK1.out.alloc _).ints W2.out (by simp)) (by omega)).mono ?_
    rintro e w2 ⟨v2, rfl, hf2, hk2⟩
    rw [HL2.out, show (w1.alloc (.cells #[.slice b1 L1.length c1] 29)).heap.size = w1.heap.size + 1 by simp] at hf2
    obtain ⟨b2, c2, rfl, -⟩ := hf2.slice
    have htwo := two_new true (Nat.le_refl _) HF1.out HK1.out hf2 hk2
    have hs1 := HK1.out.size
    have hs2 := hk2.size
    rw [show (w1.alloc (.cells #[.slice b1 L1.length c1] 29)).heap.size = w1.heap.size + 1 by simp] at hs2
    have hkk : Kept [] w ((w2.alloc (.cells #[.slice b2 L2.length c2] 29)).alloc (.cells #[.bool true] 4)) := (((HK1.out.alloc _).trans hk2).alloc _).alloc _
    have HT := Lib.hid htwo; clear htwo
    have HKK := Lib.hid hkk; clear hkk
    clear hf2 hk2
    go_wp2_with fail
    refine (ZZfixComma_any _ w.heap.size _ _ _ _ _ _ true _ _ L1 L2 HT.out (by omega) (by simp; omega) HP2.out.head).mono ?_
    rintro e w4 ⟨rfl, ll, lc, hrm, vl, vc, ht4, hk4, -, -, -⟩
    have hk5 : Kept [] w w4 := by
      refine HKK.out.then hk4 ?_
      intro k hk
      simp [Value.ownBlock] at hk
      rcases hk with rfl | rfl | rfl | hk
      · exact Or.inr (by omega)
      · exact Or.inr (by omega)
      · exact Or.inr (by omega)
      · have := (World.ownsRow.lt HF1.out k (by cases b1 <;> simp [Value.ownBlock] at hk ⊢; exact hk)).1
        exact Or.inr this
    rw [HA.out, HC.out] at ht4
    have ct := ht4.ct
    have cp := ht4.cp
    have cq := ht4.cq
    obtain ⟨pa, pc, rfl, -⟩ := ht4.l.slice
    obtain ⟨qa, qc, rfl, -⟩ := ht4.c.slice
    have HT4 := Lib.hid ht4; clear ht4
    have hrm2 : ll = L1 ∧ lc = L2 := by
      rcases hrm with ⟨hf, hl, hc⟩ | ⟨hf, hl, hc⟩
      · rw [HA.out, HC.out] at hf; cases hf
      · exact ⟨hl, hc⟩
    obtain ⟨rfl, rfl⟩ := hrm2
    have HK5 := Lib.hid hk5; clear hk5
    clear hrm hk4 HT HKK
    go_wp2_with fail
    refine (zzFodderIsCodes_any _ _ _ _ _ len1 _ z1 none 0 0 [] HT4.out.l (HK5.out.ints W1.out (by simp)) (Or.inl ⟨rfl, rfl, rfl, rfl⟩) HE1.out (by omega) ?_ ?_).mono ?_
    · intro j x hj hx
      rw [← HL1.out] at hx
      exact codes_same z1 len1 j x HZ1.out hj hx
    · intro j x hj; omega
    rintro e w6 ⟨rfl, hk6⟩
    have HK6 := Lib.hid (HK5.out.trans hk6)
    have HC6 := Lib.hid (HT4.out.kept0 hk6)
    have cq6 := HC6.out.cq
    clear hk6
    go_wp2_with fail
    refine (zzFodderIsCodes_any _ _ _ _ _ len2 _ z2 none 0 0 [] HC6.out.c (HK6.out.ints W2.out (by simp)) (Or.inl ⟨rfl, rfl, rfl, rfl⟩) HE2.out (by omega) ?_ ?_).mono ?_
    · intro j x hj hx
      rw [← HL2.out] at hx
      exact codes_same z2 len2 j x HZ2.out hj hx
    · intro j x hj; omega
    rintro e w7 ⟨rfl, hk7⟩
    go_wp2_with fail
    go_ret
    exact ⟨rfl, (HK6.out.trans hk7).below (Nat.le_refl _) (by simp)⟩
  · go_wp2_with fail
    refine (zzMergeRisk_any _ false _ _ _ _ _ _ z2 W2.out (by omega) (by omega)).mono ?_
    rintro e w' ⟨rfl, rfl⟩
    rw [show risk false len1 len2 z2 = false from rfl]
    go_wp2_with fail
    refine (zzFodder_any _ _ _ _ z1 W1.out (by omega)).mono ?_
    rintro e w1 ⟨v1, rfl, hf1, hk1⟩
    rw [HL1.out] at hf1
    obtain ⟨b1, c1, rfl, -⟩ := hf1.slice
    have HF1 := Lib.hid hf1; clear hf1
    have HK1 := Lib.hid hk1; clear hk1
    go_wp2_with fail
    refine (zzFodder_any _ _ _ _ z2 ((HK1.out.alloc _).ints W2.out (by simp)) (by omega)).mono ?_
    rintro e w2 ⟨v2, rfl, hf2, hk2⟩
    rw [HL2.out, show (w1.alloc (.cells #[.slice b1 L1.length c1] 29)).heap.size = w1.heap.size + 1 by simp] at hf2
    obtain ⟨b2, c2, rfl, -⟩ := hf2.slice
    have htwo := two_new false (Nat.le_refl _) HF1.out HK1.out hf2 hk2
    have hs1 := HK1.out.size
    have hs2 := hk2.size
    rw [show (w1.alloc (.cells #[.slice b1 L1.length c1] 29)).heap.size = w1.heap.size + 1 by simp] at hs2
    have hkk : Kept [] w ((w2.alloc (.cells #[.slice b2 L2.length c2] 29)).alloc (.cells #[.bool false] 4)) := (((HK1.out.alloc _).trans hk2).alloc _).alloc _
    have HT := Lib.hid htwo; clear htwo
    have HKK := Lib.hid hkk; clear hkk
    clear hf2 hk2
    go_wp2_with fail
    refine (ZZfixComma_any _ w.heap.size _ _ _ _ _ _ false _ _ L1 L2 HT.out (by omega) (by simp; omega) HP2.out.head).mono ?_
    rintro e w4 ⟨rfl, ll, lc, hrm, vl, vc, ht4, hk4, -, -, -⟩
    have hk5 : Kept [] w w4 := by
      refine HKK.out.then hk4 ?_
      intro k hk
      simp [Value.ownBlock] at hk
      rcases hk with rfl | rfl | rfl | hk
      · exact Or.inr (by omega)
      · exact Or.inr (by omega)
      · exact Or.inr (by omega)
      · have := (World.ownsRow.lt HF1.out k (by cases b1 <;> simp [Value.ownBlock] at hk ⊢; exact hk)).1
        exact Or.inr this
    rw [HA.out, HC.out] at ht4
    have ct := ht4.ct
    have cp := ht4.cp
    have cq := ht4.cq
    obtain ⟨pa, pc, rfl, -⟩ := ht4.l.slice
    obtain ⟨qa, qc, rfl, -⟩ := ht4.c.slice
    have HT4 := Lib.hid ht4; clear ht4
    have hrm2 : ll = L1 ∧ lc = L2 := by
      rcases hrm with ⟨hf, hl, hc⟩ | ⟨hf, hl, hc⟩
      · rw [HA.out, HC.out] at hf; cases hf
      · exact ⟨hl, hc⟩
    obtain ⟨rfl, rfl⟩ := hrm2
    have HK5 := Lib.hid hk5; clear hk5
    clear hrm hk4 HT HKK
    go_wp2_with fail
    refine (zzFodderIsCodes_any _ _ _ _ _ len1 _ z1 none 0 0 [] HT4.out.l (HK5.out.ints W1.out (by simp)) (Or.inl ⟨rfl, rfl, rfl, rfl⟩) HE1.out (by omega) ?_ ?_).mono ?_
    · intro j x hj hx
      rw [← HL1.out] at hx
      exact codes_same z1 len1 j x HZ1.out hj hx
    · intro j x hj; omega
    rintro e w6 ⟨rfl, hk6⟩
    have HK6 := Lib.hid (HK5.out.trans hk6)
    have HC6 := Lib.hid (HT4.out.kept0 hk6)
    have cq6 := HC6.out.cq
    clear hk6
    go_wp2_with fail
    refine (zzFodderIsCodes_any _ _ _ _ _ len2 _ z2 none 0 0 [] HC6.out.c (HK6.out.ints W2.out (by simp)) (Or.inl ⟨rfl, rfl, rfl, rfl⟩) HE2.out (by omega) ?_ ?_).mono ?_
    · intro j x hj hx
      rw [← HL2.out] at hx
      exact codes_same z2 len2 j x HZ2.out hj hx
    · intro j x hj; omega
    rintro e w7 ⟨rfl, hk7⟩
    go_wp2_with fail
    go_ret
    exact ⟨rfl, (HK6.out.trans hk7).below (Nat.le_refl _) (by simp)⟩
  · go_wp2_with fail
    refine (zzMergeRisk_any _ true _ _ _ _ _ _ z2 W2.out (by omega) (by omega)).mono ?_
    rintro e w' ⟨rfl, rfl⟩
    obtain ⟨R, hR⟩ : ∃ R, risk true len1 len2 z2 = R := ⟨_, rfl⟩
    rw [hR]
    have HR := Lib.hid hR; clear hR
    cases R
    rotate_left 1
    · go_wp2_with fail
      go_ret
      exact ⟨rfl, Below.refl _ _⟩
    go_wp2_with fail
    refine (zzFodder_any _ _ _ _ z1 W1.out (by omega)).mono ?_
    rintro e w1 ⟨v1, rfl, hf1, hk1⟩
    rw [HL1.out] at hf1
    obtain ⟨b1, c1, rfl, -⟩ := hf1.slice
    have HF1 := Lib.hid hf1; clear hf1
    have HK1 := Lib.hid hk1; clear hk1
    go_wp2_with fail
    refine (zzFodder_any _ _ _ _ z2 ((HK1.out.alloc _).ints W2.out (by simp)) (by omega)).mono ?_
    rintro e w2 ⟨v2, rfl, hf2, hk2⟩
    rw [HL2.out, show (w1.alloc (.cells #[.slice b1 L1.length c1] 29)).heap.size = w1.heap.size + 1 by simp] at hf2
    obtain ⟨b2, c2, rfl, -⟩ := hf2.slice
    have htwo := two_new true (Nat.le_refl _) HF1.out HK1.out hf2 hk2
    have hs1 := HK1.out.size
    have hs2 := hk2.size
    rw [show (w1.alloc (.cells #[.slice b1 L1.length c1] 29)).heap.size = w1.heap.size + 1 by simp] at hs2
    have hkk : Kept [] w ((w2.alloc (.cells #[.slice b2 L2.length c2] 29)).alloc (.cells #[.bool true] 4)) := (((HK1.out.alloc _).trans hk2).alloc _).alloc _
    have HT := Lib.hid htwo; clear htwo
    have HKK := Lib.hid hkk; clear hkk
    clear hf2 hk2
    go_wp2_with fail
    refine (ZZfixComma_any _ w.heap.size _ _ _ _ _ _ true _ _ L1 L2 HT.out (by omega) (by simp; omega) HP2.out.head).mono ?_
    rintro e w4 ⟨rfl, ll, lc, hrm, vl, vc, ht4, hk4, -, -, -⟩
    have hk5 : Kept [] w w4 := by
      refine HKK.out.then hk4 ?_
      intro k hk
      simp [Value.ownBlock] at hk
      rcases hk with rfl | rfl | rfl | hk
      · exact Or.inr (by omega)
      · exact Or.inr (by omega)
      · exact Or.inr (by omega)
      · have := (World.ownsRow.lt HF1.out k (by cases b1 <;> simp [Value.ownBlock] at hk ⊢; exact hk)).1
        exact Or.inr this
    rw [HA.out, HC.out] at ht4
    have ct := ht4.ct
    have cp := ht4.cp
    have cq := ht4.cq
    obtain ⟨pa, pc, rfl, -⟩ := ht4.l.slice
    obtain ⟨qa, qc, rfl, -⟩ := ht4.c.slice
    have HT4 := Lib.hid ht4; clear ht4
    have hrm2 : ll = [] ∧ lc = L1 ++ L2 := by
      rcases hrm with ⟨hf, hl, hc⟩ | ⟨hf, hl, hc⟩
      · refine ⟨hl, ?_⟩
        rw [← HL1.out, ← HL2.out] at hc ⊢
        exact conc_plain HZ1.out HZ2.out HR.out hc
      · rw [HA.out, HC.out] at hf; cases hf
    have hz : ((ll.length : Int) == 0) = true := by rw [hrm2.1]; rfl
    have hcl : lc.length ≤ 9223372036854775807 := by rw [hrm2.2, List.length_append]; omega
    have HRM := Lib.hid hrm2; clear hrm2
    have HK5 := Lib.hid hk5; clear hk5
    clear hrm hk4 HT HKK
    go_wp2_with fail
    refine (zzFodderIsCodes_any _ _ _ lc _ len1 _ z1 _ len2 _ z2 HT4.out.c (HK5.out.ints W1.out (by simp)) (HK5.out.ints W2.out (by simp)) (by rw [HRM.out.2, List.length_append, HE1.out, HE2.out]) (by omega) ?_ ?_).mono ?_
    · intro j x hj hx
      rw [HRM.out.2] at hx
      rw [List.getElem?_append_left (by rw [HE1.out]; exact hj), ← HL1.out] at hx
      exact codes_same z1 len1 j x HZ1.out hj hx
    · intro j x hj hx
      rw [HRM.out.2] at hx
      rw [List.getElem?_append_right (by rw [HE1.out]; omega), HE1.out, Nat.add_sub_cancel_left, ← HL2.out] at hx
      exact codes_same z2 len2 j x HZ2.out hj hx
    rintro e w6 ⟨rfl, hk6⟩
    go_wp2_with fail
    go_ret
    exact ⟨rfl, (HK5.out.trans hk6).below (Nat.le_refl _) (by simp)⟩
  · go_wp2_with fail
    refine (zzMergeRisk_any _ false _ _ _ _ _ _ z2 W2.out (by omega) (by omega)).mono ?_
    rintro e w' ⟨rfl, rfl⟩
    rw [show risk false len1 len2 z2 = false from rfl]
    go_wp2_with fail
    refine (zzFodder_any _ _ _ _ z1 W1.out (by omega)).mono ?_
    rintro e w1 ⟨v1, rfl, hf1, hk1⟩
    rw [HL1.out] at hf1
    obtain ⟨b1, c1, rfl, -⟩ := hf1.slice
    have HF1 := Lib.hid hf1; clear hf1
    have HK1 := Lib.hid hk1; clear hk1
    go_wp2_with fail
    refine (zzFodder_any _ _ _ _ z2 ((HK1.out.alloc _).ints W2.out (by simp)) (by omega)).mono ?_
    rintro e w2 ⟨v2, rfl, hf2, hk2⟩
    rw [HL2.out, show (w1.alloc (.cells #[.slice b1 L1.length c1] 29)).heap.size = w1.heap.size + 1 by simp] at hf2
    obtain ⟨b2, c2, rfl, -⟩ := hf2.slice
    have htwo := two_new false (Nat.le_refl _) HF1.out HK1.out hf2 hk2
    have hs1 := HK1.out.size
    have hs2 := hk2.size
    rw [show (w1.alloc (.cells #[.slice b1 L1.length c1] 29)).heap.size = w1.heap.size + 1 by simp] at hs2
    have hkk : Kept [] w ((w2.alloc (.cells #[.slice b2 L2.length c2] 29)).alloc (.cells #[.bool false] 4)) := (((HK1.out.alloc _).trans hk2).alloc _).alloc _
    have HT := Lib.hid htwo; clear htwo
    have HKK := Lib.hid hkk; clear hkk
    clear hf2 hk2
    go_wp2_with fail
    refine (ZZfixComma_any _ w.heap.size _ _ _ _ _ _ false _ _ L1 L2 HT.out (by omega) (by simp; omega) HP2.out.head).mono ?_
    rintro e w4 ⟨rfl, ll, lc, hrm, vl, vc, ht4, hk4, -, -, -⟩
    have hk5 : Kept [] w w4 := by
      refine HKK.out.then hk4 ?_
      intro k hk
      simp [Value.ownBlock] at hk
      rcases hk with rfl | rfl | rfl | hk
      · exact Or.inr (by omega)
      · exact Or.inr (by omega)
      · exact Or.inr (by omega)
      · have := (World.ownsRow.lt HF1.out k (by cases b1 <;> simp [Value.ownBlock] at hk ⊢; exact hk)).1
        exact Or.inr this
    rw [HA.out, HC.out] at ht4
    have ct := ht4.ct
    have cp := ht4.cp
    have cq := ht4.cq
    obtain ⟨pa, pc, rfl, -⟩ := ht4.l.slice
    obtain ⟨qa, qc, rfl, -⟩ := ht4.c.slice
    have HT4 := Lib.hid ht4; clear ht4
    have hrm2 : ll = L1 ∧ lc = L2 := by
      rcases hrm with ⟨hf, hl, hc⟩ | ⟨hf, hl, hc⟩
      · rw [HA.out, HC.out] at hf; cases hf
      · exact ⟨hl, hc⟩
    obtain ⟨rfl, rfl⟩ := hrm2
    have HK5 := Lib.hid hk5; clear hk5
    clear hrm hk4 HT HKK
    go_wp2_with fail
    refine (zzFodderIsCodes_any _ _ _ _ _ len1 _ z1 none 0 0 [] HT4.out.l (HK5.out.ints W1.out (by simp)) (Or.inl ⟨rfl, rfl, rfl, rfl⟩) HE1.out (by omega) ?_ ?_).mono ?_
    · intro j x hj hx
      rw [← HL1.out] at hx
      exact codes_same z1 len1 j x HZ1.out hj hx
    · intro j x hj; omega
    rintro e w6 ⟨rfl, hk6⟩
    have HK6 := Lib.hid (HK5.out.trans hk6)
    have HC6 := Lib.hid (HT4.out.kept0 hk6)
    have cq6 := HC6.out.cq
    clear hk6
    go_wp2_with fail
    refine (zzFodderIsCodes_any _ _ _ _ _ len2 _ z2 none 0 0 [] HC6.out.c (HK6.out.ints W2.out (by simp)) (Or.inl ⟨rfl, rfl, rfl, rfl⟩) HE2.out (by omega) ?_ ?_).mono ?_
    · intro j x hj hx
      rw [← HL2.out] at hx
      exact codes_same z2 len2 j x HZ2.out hj hx
    · intro j x hj; omega
    rintro e w7 ⟨rfl, hk7⟩
    go_wp2_with fail
    go_ret
    exact ⟨rfl, (HK6.out.trans hk7).below (Nat.le_refl _) (by simp)⟩
  · go_wp2_with fail
    refine (zzMergeRisk_any _ true _ _ _ _ _ _ z2 W2.out (by omega) (by omega)).mono ?_
    rintro e w' ⟨rfl, rfl⟩
    obtain ⟨R, hR⟩ : ∃ R, risk true len1 len2 z2 = R := ⟨_, rfl⟩
    rw [hR]
    have HR := Lib.hid hR; clear hR
    cases R
    rotate_left 1
    · go_wp2_with fail
      go_ret
      exact ⟨rfl, Below.refl _ _⟩
    go_wp2_with fail
    refine (zzFodder_any _ _ _ _ z1 W1.out (by omega)).mono ?_
    rintro e w1 ⟨v1, rfl, hf1, hk1⟩
    rw [HL1.out] at hf1
    obtain ⟨b1, c1, rfl, -⟩ := hf1.slice
    have HF1 := Lib.hid hf1; clear hf1
    have HK1 := Lib.hid hk1; clear hk1
    go_wp2_with fail
    refine (zzFodder_any _ _ _ _ z2 ((HK1.out.alloc _).ints W2.out (by simp)) (by omega)).mono ?_
    rintro e w2 ⟨v2, rfl, hf2, hk2⟩
    rw [HL2.out, show (w1.alloc (.cells #[.slice b1 L1.length c1] 29)).heap.size = w1.heap.size + 1 by simp] at hf2
    obtain ⟨b2, c2, rfl, -⟩ := hf2.slice
    have htwo := two_new true (Nat.le_refl _) HF1.out HK1.out hf2 hk2
    have hs1 := HK1.out.size
    have hs2 := hk2.size
    rw [show (w1.alloc (.cells #[.slice b1 L1.length c1] 29)).heap.size = w1.heap.size + 1 by simp] at hs2
    have hkk : Kept [] w ((w2.alloc (.cells #[.slice b2 L2.length c2] 29)).alloc (.cells #[.bool true] 4)) := (((HK1.out.alloc _).trans hk2).alloc _).alloc _
    have HT := Lib.hid htwo; clear htwo
    have HKK := Lib.hid hkk; clear hkk
    clear hf2 hk2
    go_wp2_with fail
    refine (ZZfixComma_any _ w.heap.size _ _ _ _ _ _ true _ _ L1 L2 HT.out (by omega) (by simp; omega) HP2.out.head).mono ?_
    rintro e w4 ⟨rfl, ll, lc, hrm, vl, vc, ht4, hk4, -, -, -⟩
    have hk5 : Kept [] w w4 := by
      refine HKK.out.then hk4 ?_
      intro k hk
      simp [Value.ownBlock] at hk
      rcases hk with rfl | rfl | rfl | hk
      · exact Or.inr (by omega)
      · exact Or.inr (by omega)
      · exact Or.inr (by omega)
      · have := (World.ownsRow.lt HF1.out k (by cases b1 <;> simp [Value.ownBlock] at hk ⊢; exact hk)).1
        exact Or.inr this
    rw [HA.out, HC.out] at ht4
    have ct := ht4.ct
    have cp := ht4.cp
    have cq := ht4.cq
    obtain ⟨pa, pc, rfl, -⟩ := ht4.l.slice
    obtain ⟨qa, qc, rfl, -⟩ := ht4.c.slice
    have HT4 := Lib.hid ht4; clear ht4
    have hrm2 : ll = [] ∧ lc = L1 ++ L2 := by
      rcases hrm with ⟨hf, hl, hc⟩ | ⟨hf, hl, hc⟩
      · refine ⟨hl, ?_⟩
        rw [← HL1.out, ← HL2.out] at hc ⊢
        exact conc_plain HZ1.out HZ2.out HR.out hc
      · rw [HA.out, HC.out] at hf; cases hf
    have hz : ((ll.length : Int) == 0) = true := by rw [hrm2.1]; rfl
    have hcl : lc.length ≤ 9223372036854775807 := by rw [hrm2.2, List.length_append]; omega
    have HRM := Lib.hid hrm2; clear hrm2
    have HK5 := Lib.hid hk5; clear hk5
    clear hrm hk4 HT HKK
    go_wp2_with fail
    refine (zzFodderIsCodes_any _ _ _ lc _ len1 _ z1 _ len2 _ z2 HT4.out.c (HK5.out.ints W1.out (by simp)) (HK5.out.ints W2.out (by simp)) (by rw [HRM.out.2, List.length_append, HE1.out, HE2.out]) (by omega) ?_ ?_).mono ?_
    · intro j x hj hx
      rw [HRM.out.2] at hx
      rw [List.getElem?_append_left (by rw [HE1.out]; exact hj), ← HL1.out] at hx
      exact codes_same z1 len1 j x HZ1.out hj hx
    · intro j x hj hx
      rw [HRM.out.2] at hx
      rw [List.getElem?_append_right (by rw [HE1.out]; omega), HE1.out, Nat.add_sub_cancel_left, ← HL2.out] at hx
      exact codes_same z2 len2 j x HZ2.out hj hx
    rintro e w6 ⟨rfl, hk6⟩
    go_wp2_with fail
    go_ret
    exact ⟨rfl, (HK5.out.trans hk6).below (Nat.le_refl _) (by simp)⟩
end fnFixCommaExactSpec
end Go.Proofs.YtinaihfbakkcmaaFmt
