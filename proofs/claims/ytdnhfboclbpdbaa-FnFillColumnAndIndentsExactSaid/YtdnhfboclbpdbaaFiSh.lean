/- The walk of the law FnFillShiftsWithStartColumn: it returns true at every input, and writes nothing that was there. -/
import Derived.Test.YtdnhfboclbpdbaaFill
import Derived.Test.YtdnhfboclbpdbaaCloneS
import Derived.Test.YtdnhfboclbpdbaaClone
namespace Go.Proofs.Ytdnhfboclbpdbaa
open Go.ChangeShapes Go.WideShapes Go.ChangeAt Go.RowKit

/-! The plain law -/
theorem wrap_wrap (a b : Int) : wrap64 (wrap64 a + b) = wrap64 (a + b) := by unfold wrap64; omega
/-- Some of the first m codes is no 1. -/
def hasNL (z : List Int) (m : Nat) : Bool := (z.take m).any (fun k => k != 1)
theorem hasNL_succ (z : List Int) (m : Nat) (h : m < z.length) : hasNL z (m + 1) = (hasNL z m || (z.getD m 0 != 1)) := by
  unfold hasNL
  have hg : z.getD m 0 = z[m] := by simp [List.getD, List.getElem?_eq_getElem h]
  rw [hg, List.take_add_one, List.getElem?_eq_getElem h, Option.toList_some, List.any_append]
  simp only [List.any_cons, List.any_nil, Bool.or_false]

theorem fillTo_shift (z : List Int) (tx : Nat → ByteArray) (ind c0 sh : Int) (cr : Bool) (m : Nat) (hm : m ≤ z.length) :
    if hasNL z m = true then fillTo z tx ind (wrap64 (c0 + sh)) cr m = fillTo z tx ind c0 cr m
    else (fillTo z tx ind (wrap64 (c0 + sh)) cr m).1 = wrap64 ((fillTo z tx ind c0 cr m).1 + sh) ∧ (fillTo z tx ind (wrap64 (c0 + sh)) cr m).2 = (fillTo z tx ind c0 cr m).2 := by
  induction m with
  | zero => simp [hasNL, fillTo]
  | succ m ih =>
    have ih := ih (by omega)
    rw [hasNL_succ z m (by omega)]
    by_cases hz : z.getD m 0 = 1
    · have : (z.getD m 0 != 1) = false := by simpa using hz
      rw [this, Bool.or_false]
      simp only [fillTo, hz, if_true]
      by_cases hn : hasNL z m = true
      · rw [if_pos hn] at ih ⊢
        rw [ih]
      · rw [if_neg hn] at ih ⊢
        obtain ⟨i1, i2⟩ := ih
        refine ⟨?_, trivial⟩
        rw [i2, i1]
        generalize (fillTo z tx ind c0 cr m).1 = c
        generalize ((tx m).size : Int) = s
        cases (fillTo z tx ind c0 cr m).2
        · simp only [Bool.false_eq_true, if_false]
          unfold wrap64
          omega
        · simp only [if_true]
          unfold wrap64
          omega
    · have : (z.getD m 0 != 1) = true := by simpa using hz
      rw [this, Bool.or_true, if_pos rfl]
      simp only [fillTo, hz, if_false]

theorem fillEnd_shift (z : List Int) (tx : Nat → ByteArray) (ind c0 sh : Int) (cr sep : Bool) (m : Nat) (hm : m ≤ z.length) :
    if hasNL z m = true then fillEnd (fillTo z tx ind (wrap64 (c0 + sh)) cr m) sep = fillEnd (fillTo z tx ind c0 cr m) sep
    else fillEnd (fillTo z tx ind (wrap64 (c0 + sh)) cr m) sep = wrap64 (fillEnd (fillTo z tx ind c0 cr m) sep + sh) := by
  have h := fillTo_shift z tx ind c0 sh cr m hm
  by_cases hn : hasNL z m = true
  · rw [if_pos hn] at h ⊢
    rw [h]
  · rw [if_neg hn] at h ⊢
    obtain ⟨h1, h2⟩ := h
    unfold fillEnd
    rw [h1, h2]
    split
    · rw [wrap_wrap, wrap_wrap]
      congr 1
      omega
    · rfl

/-! The contracts -/
set_option maxHeartbeats 400000 in
theorem fill_any (w : World) (B bc len cap : Nat) (z : List Int) (iv : Nat → Int) (tx : Nat → ByteArray) (ind opt c0 : Int) (cr sep : Bool) (l : List FE) (hl : l.length = len) (hlen : len ≤ 1048576)
    (hf : Fod w B (.slice (some ⟨B, 0, none⟩) len cap) l) (hel : Els w B bc len z iv tx l) (hfx : IsFix w bc c0 opt) (hne : bc ≠ B) (hts : ∀ j, j < len → (tx j).size ≤ 9223372036854775807) :
    Calls Try.prog 37 #[.pointer (some ⟨bc, 0, none⟩), .slice (some ⟨B, 0, none⟩) len cap, .bool cr, .bool sep, .int .i64 ind] w fun e w' =>
      e = .returned (.tuple #[]) ∧ Filled B bc len (.slice (some ⟨B, 0, none⟩) len cap) z iv tx ind opt (fillEnd (fillTo z tx ind c0 cr len) sep) w w' := by
  have inner : Calls Try.prog 51 #[.pointer (some ⟨bc, 0, none⟩), .slice (some ⟨B, 0, none⟩) len cap, .bool cr, .bool sep, .int .i64 ind] w fun e w' =>
      e = .returned (.tuple #[]) ∧ Filled B bc len (.slice (some ⟨B, 0, none⟩) len cap) z iv tx ind opt (fillEnd (fillTo z tx ind c0 cr len) sep) w w' := by
    have HC := Lib.hid (fillLast_any w B bc len cap z iv tx ind opt c0 cr sep l hl hlen hf hel hfx hne hts)
    clear hf hel hfx hts hl
    go_enter Try.func51, Try.ntmps51
    go_wp2_with fail
    refine HC.out.mono ?_
    rintro e w1 ⟨rfl, h1⟩
    go_wp2_with fail
    go_end0
    exact ⟨rfl, h1⟩
  have HC := Lib.hid inner
  clear hf hel hfx hts hl inner
  go_enter Try.func37, Try.ntmps37
  go_wp2_with fail
  refine HC.out.mono ?_
  rintro e w1 ⟨rfl, h1⟩
  go_wp2_with fail
  go_end0
  exact ⟨rfl, h1⟩

set_option maxHeartbeats 400000 in
theorem column_any (w : World) (bc : Nat) (c o : Int) (h : IsFix w bc c o) :
    Calls Try.prog 38 #[.pointer (some ⟨bc, 0, none⟩)] w fun e w' => e = .returned (.int .i64 c) ∧ w = w' := by
  obtain ⟨h1, h2, h3, h4⟩ := h
  go_enter Try.func38, Try.ntmps38
  go_wp2
  go_ret
  exact ⟨rfl, rfl⟩

set_option maxRecDepth 100000 in
set_option maxHeartbeats 1000000 in
theorem zzBytes_FiSh (w : World) (a : Option Addr) (len cap : Nat) (a1 : Option Addr) (len1 cap1 : Nat) (ss : List ByteArray) (x1 x2 x3 : Int) (b1 b2 : Bool) (h : len ≤ 9223372036854775807) (hs : IsStrs w a1 len1 cap1 ss) :
    Calls Try.prog 34 #[.slice a len cap, .slice a1 len1 cap1, .int .i64 x1, .int .i64 x2, .bool b1, .bool b2, .int .i64 x3] w (SomeBool w) := by
  obtain ⟨hlc, hcm, hzl, hwf, hcell⟩ := hs.open
  have HW := Lib.hid hwf; clear hwf
  have HZ := Lib.hid hzl; clear hzl
  have HC := Lib.hid hcell; clear hcell hs
  unfold maxLen at hcm
  by_cases c0 : 1048576 < len
  · go_enter Try.func34, Try.ntmps34
    go_wp2
    go_ret
    exact ⟨_, rfl, rfl⟩
  by_cases c1 : 1048576 < len1
  · go_enter Try.func34, Try.ntmps34
    go_wp2
    go_ret
    exact ⟨_, rfl, rfl⟩
  by_cases c2 : 1048576 < len + len1
  · go_enter Try.func34, Try.ntmps34
    go_wp2
    go_ret
    exact ⟨_, rfl, rfl⟩
  go_enter Try.func34, Try.ntmps34
  go_wp2
  go_loop [15, 16] (fun c i => ∃ (n : Int) (m : Nat), m ≤ len1 ∧ i = .int .i64 m ∧ c = .int .i64 n ∧ 0 ≤ n ∧ n ≤ 1048576) (fun _ i => len1 - (intOf i).toNat)
  case atStart => exact ⟨_, 0, Nat.zero_le _, rfl, rfl, by omega, by omega⟩
  case round =>
    obtain ⟨n, m, hm, rfl, rfl, hn0, hn1⟩ := hrel
    by_cases hlt : m < len1
    · obtain ⟨b, o, rfl, hbl, hc⟩ := HC.out m hlt
      have hcm := hc m (by omega)
      generalize ss.getD m ByteArray.empty = sm at *
      clear hc HC
      by_cases d1 : 1048576 < sm.size
      · go_wp2
        go_ret
        exact ⟨_, rfl, rfl⟩
      by_cases d2 : 1048576 < n + sm.size
      · go_wp2
        go_ret
        exact ⟨_, rfl, rfl⟩
      go_wp2
      go_round
      case rel => exact ⟨_, m + 1, by omega, by go_num, rfl, by omega, by omega⟩
      case measure => simp [intOf]; omega
    · clear HC
      go_wp2
      go_ret
      exact ⟨_, rfl, rfl⟩

/-- A built fodder in a later world. -/
theorem BInv.els {w w' w2 : World} {len : Nat} {z : List Int} {iv : Nat → Int} {tx : Nat → ByteArray} {S : List Nat} {bc : Nat} (h : BInv w len z iv tx len w') (hk : Kept S w' w2)
    (hS : ∀ x ∈ S, x ≤ w.heap.size ∨ w'.heap.size ≤ x) (hB : w.heap.size ∉ S) (hbc : w'.heap.size ≤ bc) :
    ∃ l, l.length = len ∧ Fod w2 w.heap.size (.slice (some ⟨w.heap.size, 0, none⟩) len len) l ∧ Els w2 w.heap.size bc len z iv tx l := by
  obtain ⟨l, hl, hf, hel, hb⟩ := h
  refine ⟨l, hl, hf.kept hk (by simpa [Value.ownBlock] using hB), fun j hj => ?_⟩
  obtain ⟨e, he, hee⟩ := hel j hj
  refine ⟨e, he, hee.kept hk hS, fun g hg => ?_⟩
  obtain ⟨h1, h2, h3, h4, h5⟩ := hee
  by_cases hz : z.getD j 0 = 1
  · obtain ⟨g', g1, _, _, _, g5, _⟩ := h4 hz
    rw [hg] at g1
    simp at g1
    omega
  · rw [(h5 hz).1] at hg
    cases hg

theorem BInv.size {w w' : World} {len : Nat} {z : List Int} {iv : Nat → Int} {tx : Nat → ByteArray} (h : BInv w len z iv tx len w') : Below w.heap.size w w' ∧ w.heap.size < w'.heap.size := by
  obtain ⟨l, hl, hf, hel, hb⟩ := h
  exact ⟨hb, (World.ownsRow.lt hf w.heap.size rfl).2⟩

theorem tx_size {len : Nat} {ss : List ByteArray} (h : ∀ s ∈ ss, s.size ≤ maxLen) (j : Nat) : (if j < len then ss.getD j ByteArray.empty else ByteArray.empty).size ≤ 9223372036854775807 := by
  split
  · by_cases hj : j < ss.length
    · have := h ss[j] (List.getElem_mem hj)
      simp [List.getD, List.getElem?_eq_getElem hj]
      unfold maxLen at this
      omega
    · simp [List.getD, List.getElem?_eq_none (by omega : ss.length ≤ j)]
  · simp

namespace fnFillShiftsWithStartColumn
set_option linter.unusedVariables false
set_option maxRecDepth 100000 in
set_option maxHeartbeats 4000000 in
theorem walk (a0 : Option Addr) (len0 cap0 : Nat) (z0 : List Int) (a1 : Option Addr) (len1 cap1 : Nat) (z1 : List ByteArray) (a2 a3 : Int) (a4 a5 : Bool) (a6 : Int) (w : World) (w0 : IsRow .i64 w a0 len0 cap0 z0) (w1 : IsStrs w a1 len1 cap1 z1)
    (w2 : (Lit.int .i64 a2).wf = true) (w3 : (Lit.int .i64 a3).wf = true) (w6 : (Lit.int .i64 a6).wf = true) :
    Calls Try.prog 9 #[.slice a0 len0 cap0, .slice a1 len1 cap1, .int .i64 a2, .int .i64 a3, .bool a4, .bool a5, .int .i64 a6] w fun e w' => e = .returned (.bool true) ∧ Below w.heap.size w w' := by
  have hw := w0.open
  have hb0 : len0 ≤ 9223372036854775807 := by have := hw.1; have := hw.2.1; unfold maxLen at *; omega
  have hzl : (z0.take len0).length = len0 := by rw [List.length_take, hw.2.2.1]; have := hw.1; omega
  have HZL := Lib.hid hzl; clear hzl
  have W0 := Lib.hid w0; clear w0 w2 w3 w6 hw
  have W1 := Lib.hid w1; clear w1
  go_enter Try.func9, Try.ntmps9
  go_wp2_with fail
  refine (zzBytes_FiSh _ _ _ _ _ _ _ z1 _ _ _ _ _ hb0 W1.out).mono ?_
  rintro e w' ⟨b, rfl, rfl⟩
  cases b
  · go_wp2_with fail
    go_ret
    exact ⟨rfl, Below.refl _ _⟩
  go_wp2_with fail
  refine (zzOutOfSize_any _ _ _ _ _ _ _ _ _ _ z1 hb0 (by omega) W1.out).mono ?_
  rintro e w' ⟨b, rfl, hsz, rfl⟩
  cases b
  rotate_left
  · go_wp2_with fail
    go_ret
    exact ⟨rfl, Below.refl _ _⟩
  obtain ⟨hl0, hl1⟩ := hsz rfl
  clear hsz
  go_wp2_with fail
  refine (zzCloneInts_any _ _ _ _ z0 W0.out (by omega)).mono ?_
  rintro e w1 ⟨a0', c0', rfl, hr1, hb1⟩
  have HS1 := Lib.hid ((Kept.of_below hb1 (Nat.le_refl _) []).strs W1.out (by simp))
  have HR1 := Lib.hid hr1; clear hr1
  generalize z0.take len0 = zs at *
  go_wp2_with fail
  refine (zzCloneStrings_any _ _ _ _ z1 HS1.out (by omega)).mono ?_
  rintro e w2 ⟨a1', c1', rfl, hs2, hb2⟩
  have HR2 := Lib.hid ((Kept.of_below hb2 (Nat.le_refl _) []).ints HR1.out (by simp)); clear HR1
  have HS2 := Lib.hid hs2; clear hs2 HS1
  generalize z1.take len1 = ss at *
  have HB2 := Lib.hid (below_next hb1 hb2); clear hb1 hb2
  go_wp2_with fail
  refine (zzBuild_any _ _ _ _ zs _ _ _ [] _ _ _ ss HR2.out (Or.inl ⟨rfl, rfl, rfl, rfl⟩) HS2.out (by omega)).mono ?_
  rintro e w3 ⟨rfl, hbi1⟩
  generalize hiv : (fun j => if j < 0 then ([] : List Int).getD j 0 else 0) = iv at *
  have htx := tx_size (len := len1) (ss := ss) (by obtain ⟨_, _, _, h, _⟩ := HS2.out.open; exact h)
  generalize htxe : (fun j => if j < len1 then ss.getD j ByteArray.empty else ByteArray.empty) = tx at *
  have htx : ∀ j, j < len0 → (tx j).size ≤ 9223372036854775807 := by intro j _; rw [← htxe]; exact htx j
  have hq3 := hbi1.size
  have HBI1 := Lib.hid hbi1; clear hbi1
  have HTX := Lib.hid htx; clear htx
  have HIV := Lib.hid hiv; clear hiv
  have HTE := Lib.hid htxe; clear htxe
  have HR3 := Lib.hid ((Kept.of_below hq3.1 (Nat.le_refl _) []).ints HR2.out (by simp))
  have HS3 := Lib.hid ((Kept.of_below hq3.1 (Nat.le_refl _) []).strs HS2.out (by simp)); clear HS2
  have HQ3 := Lib.hid hq3.1
  have hs3 := hq3.2; clear hq3
  go_wp2_with fail
  refine (zzBuild_any _ _ _ _ zs _ _ _ [] _ _ _ ss HR3.out (Or.inl ⟨rfl, rfl, rfl, rfl⟩) HS3.out (by omega)).mono ?_
  rintro e w4 ⟨rfl, hbi2⟩
  rw [HIV.out, HTE.out] at hbi2
  have hq4 := hbi2.size
  have HBI2 := Lib.hid hbi2; clear hbi2 HR3 HS3
  have HQ4 := Lib.hid hq4.1
  have hs4 := hq4.2; clear hq4
  go_wp2_with fail
  refine (ZZnewFix_127 _ _ _).mono ?_
  rintro e w5 ⟨rfl, hfx1, hb5⟩
  have hs5 := hb5.size
  have hs5' := hfx1.1
  have HX1 := Lib.hid hfx1; clear hfx1
  have HQ5 := Lib.hid hb5; clear hb5
  go_wp2_with fail
  refine (ZZnewFix_127 _ _ _).mono ?_
  rintro e w6 ⟨rfl, hfx2, hb6⟩
  have hs6 := hb6.size
  have hs6' := hfx2.1
  have HX1' := Lib.hid (HX1.out.below hb6); clear HX1
  have HX2 := Lib.hid hfx2; clear hfx2
  have HQ6 := Lib.hid hb6; clear hb6
  have hk36 : Kept [] w3 w6 := ((Kept.of_below HQ4.out (Nat.le_refl _) []).trans (Kept.of_below HQ5.out (Nat.le_refl _) [])).trans (Kept.of_below HQ6.out (Nat.le_refl _) [])
  obtain ⟨l1, hll1, hf1, hel1⟩ := HBI1.out.els (bc := w4.heap.size) hk36 (by simp) (by simp) (by omega)
  have HK36 := Lib.hid hk36; clear hk36
  have HF1 := Lib.hid hf1; clear hf1
  have HE1 := Lib.hid hel1; clear hel1
  have HL1 := Lib.hid hll1; clear hll1
  go_wp2_with fail
  refine (fill_any _ _ _ _ _ zs iv tx _ _ _ _ _ l1 HL1.out (by omega) HF1.out HE1.out HX1'.out (by omega) HTX.out).mono ?_
  rintro e w7 ⟨rfl, hx7, _, hk7⟩
  have hs7 := hk7.size
  have hk47 : Kept [w2.heap.size, w4.heap.size] w4 w7 := (((Kept.of_below HQ5.out (Nat.le_refl _) _).trans (Kept.of_below HQ6.out (Nat.le_refl _) _))).trans hk7
  obtain ⟨l2, hll2, hf2, hel2⟩ := HBI2.out.els (bc := w5.heap.size) hk47 (by simp; omega) (by simp; omega) (by omega)
  have HX7 := Lib.hid hx7; clear hx7 HX1'
  have HX2' := Lib.hid (HX2.out.kept hk7 (by simp; omega)); clear HX2
  have HK7 := Lib.hid hk7; clear hk7
  have HF2 := Lib.hid hf2; clear hf2
  have HE2 := Lib.hid hel2; clear hel2
  have HL2 := Lib.hid hll2; clear hll2 hk47
  go_wp2_with fail
  refine (fill_any _ _ _ _ _ zs iv tx _ _ _ _ _ l2 HL2.out (by omega) HF2.out HE2.out HX2'.out (by omega) HTX.out).mono ?_
  rintro e w8 ⟨rfl, hx8, _, hk8⟩
  have HX7' := Lib.hid (HX7.out.kept hk8 (by simp; omega)); clear HX7
  have HX8 := Lib.hid hx8; clear hx8 HX2'
  have hk28 : Kept [w2.heap.size, w4.heap.size, w3.heap.size, w5.heap.size] w2 w8 :=
    ((((Kept.of_below HQ3.out (Nat.le_refl _) _).then HK36.out (by simp)).then HK7.out (by simp))).then hk8 (by simp)
  have HR8 := Lib.hid (hk28.ints HR2.out (by simp; omega)); clear HR2
  have HB8 : Hid (Below w.heap.size w w8) := by
    have hh := HB2.out.size
    exact HB2.out.trans (hk28.below hh (by simp; omega))
  clear HL1 HL2 HE1 HE2 HF1 HF2 HK7 HK36 HBI1 HBI2 HQ3 HQ4 HQ5 HQ6 HB2 hk8 hk28 HTX HIV HTE
  have hsh := fillEnd_shift zs tx a6 a2 a3 a4 a5 len0 (by rw [HZL.out]; omega)
  generalize fillEnd (fillTo zs tx a6 (wrap64 (a2 + a3)) a4 len0) a5 = e2 at *
  generalize fillEnd (fillTo zs tx a6 a2 a4 len0) a5 = e1 at *
  have HSH := Lib.hid hsh; clear hsh
  obtain ⟨hlc, hcm, _, _, hcell⟩ := HR8.out.open
  unfold maxLen at hcm
  have HCE := Lib.hid hcell; clear hcell
  go_wp2_with fail
  go_loop [19, 20] (fun c i => ∃ m : Nat, m ≤ len0 ∧ i = .int .i64 m ∧ c = .bool (hasNL zs m)) (fun _ i => len0 - (intOf i).toNat)
  case atStart => exact ⟨0, Nat.zero_le _, rfl, by simp [hasNL]⟩
  case round =>
    obtain ⟨m, hm, rfl, rfl⟩ := hrel
    by_cases hlt : m < len0
    · obtain ⟨b, o, rfl, hbl, hc⟩ := HCE.out m hlt
      have hcm := hc m (by omega)
      have hnl := hasNL_succ zs m (by rw [HZL.out]; exact hlt)
      generalize zs.getD m 0 = zm at *
      generalize hasNL zs m = nlm at *
      have HNL := Lib.hid hnl; clear hnl
      clear hc HCE
      cases hzm : (zm != 1)
      · go_wp2_with fail
        go_round
        case rel => exact ⟨m + 1, by omega, by go_num, by rw [HNL.out, hzm, Bool.or_false]⟩
        case measure => simp [intOf]; omega
      · go_wp2_with fail
        go_round
        case rel => exact ⟨m + 1, by omega, by go_num, by rw [HNL.out, hzm, Bool.or_true]⟩
        case measure => simp [intOf]; omega
    · obtain rfl : m = len0 := by omega
      clear HCE
      cases hn : hasNL zs m
      · have he : e2 = wrap64 (e1 + a3) := by have := HSH.out; rw [hn] at this; simpa using this
        subst he
        clear HSH
        go_wp2_with fail
        refine (column_any _ _ _ _ HX8.out).mono ?_
        rintro e w' ⟨rfl, rfl⟩
        go_wp2_with fail
        refine (column_any _ _ _ _ HX7'.out).mono ?_
        rintro e w' ⟨rfl, rfl⟩
        go_wp2_with fail
        go_ret
        exact ⟨by simp, HB8⟩
      · have he : e2 = e1 := by have := HSH.out; rw [hn] at this; simpa using this
        subst he
        clear HSH
        go_wp2_with fail
        refine (column_any _ _ _ _ HX7'.out).mono ?_
        rintro e w' ⟨rfl, rfl⟩
        go_wp2_with fail
        refine (column_any _ _ _ _ HX8.out).mono ?_
        rintro e w' ⟨rfl, rfl⟩
        go_wp2_with fail
        go_ret
        exact ⟨by simp, HB8⟩
end fnFillShiftsWithStartColumn
end Go.Proofs.Ytdnhfboclbpdbaa
