/- The walk of the law FnFixCommaIdempotent: it returns true at every flag and two slices of codes, and writes nothing that was there. -/
import Derived.Test.YtinaihfbakkcmaaFmtZzC
namespace Go.Proofs.YtinaihfbakkcmaaFmt
open Go.ChangeShapes Go.WideShapes Go.ChangeAt Go.RowKit

theorem FxC.nlKeeps {tc : Bool} {l c l' c' : List FE} (h : FxC tc l c l' c') : (anyNL c' || anyNL l') = (anyNL c || anyNL l) := by
  rcases h with ⟨_, rfl, hc⟩ | ⟨_, rfl, rfl⟩
  · rw [hc.anyNL]; simp [Go.Proofs.YtinaihfbakkcmaaFmt.anyNL, Bool.or_comm]
  · rfl

theorem FxC.plain {tc : Bool} {l c l' c' : List FE} (h : FxC tc l c l' c') (hl : Plain l) (hc : Plain c) : Plain l' ∧ Plain c' := by
  rcases h with ⟨_, rfl, hk⟩ | ⟨_, rfl, rfl⟩
  · exact ⟨fun e he => by simp at he, hk.plain hl hc⟩
  · exact ⟨hl, hc⟩

theorem FxC.length {tc : Bool} {l c l' c' : List FE} (h : FxC tc l c l' c') : l'.length + c'.length ≤ l.length + c.length + 1 := by
  rcases h with ⟨_, rfl, hk⟩ | ⟨_, rfl, rfl⟩
  · have := hk.length
    simp
    omega
  · omega

theorem FxC.idem {tc : Bool} {l c l' c' l2 c2 : List FE} (h : FxC tc l c l' c') (hp : tc = false → anyNL l = false) (h2 : FxC (anyNL c || anyNL l) l' c' l2 c2) : l2 = l' ∧ c2 = c' := by
  have hn := h.nlKeeps
  rcases h2 with ⟨hs, h1, h2⟩ | ⟨_, h1, h2⟩
  · exfalso
    rcases h with ⟨h3, h4, hc⟩ | ⟨h3, h4, h5⟩
    · rw [hn, h4, show Go.Proofs.YtinaihfbakkcmaaFmt.anyNL [] = false from rfl] at hs
      generalize (Go.Proofs.YtinaihfbakkcmaaFmt.anyNL c || Go.Proofs.YtinaihfbakkcmaaFmt.anyNL l) = N at hs
      cases N <;> simp at hs
    · subst h4 h5
      cases tc
      · rw [hp rfl] at hs
        simp at hs
      · rw [Bool.true_and] at h3
        rw [h3] at hs
        simp at hs
  · exact ⟨h1, h2⟩

set_option maxHeartbeats 400000 in
theorem zzBytes_FxI (w : World) (b : Bool) (a : Option Addr) (len cap : Nat) (a1 : Option Addr) (len1 cap1 : Nat) (h : len ≤ 9223372036854775807) (h1 : len1 ≤ 9223372036854775807) :
    Calls Tryf.prog 16 #[.bool b, .slice a len cap, .slice a1 len1 cap1] w (SomeBool w) := by
  go_enter Tryf.func16, Tryf.ntmps16
  go_wp2
  all_goals
    go_ret
    exact ⟨_, rfl, rfl⟩

namespace fnFixCommaIdempotent
set_option maxRecDepth 100000 in
set_option maxHeartbeats 4000000 in
theorem walk (a0 : Bool) (a1 : Option Addr) (len1 cap1 : Nat) (z1 : List Int) (a2 : Option Addr) (len2 cap2 : Nat) (z2 : List Int) (w : World) (w1 : IsRow .i32 w a1 len1 cap1 z1) (w2 : IsRow .i32 w a2 len2 cap2 z2) :
    Calls Tryf.prog 4 #[.bool a0, .slice a1 len1 cap1, .slice a2 len2 cap2] w fun e w' => e = .returned (.bool true) ∧ Below w.heap.size w w' := by
  obtain ⟨hlc, hcm, hzl, _, hcell⟩ := w1.open
  obtain ⟨hlc1, hcm1, hzl1, _, hcell1⟩ := w2.open
  unfold maxLen at hcm hcm1
  have hb0 : len1 ≤ 9223372036854775807 := by omega
  have hb1 : len2 ≤ 9223372036854775807 := by omega
  have W1 := Lib.hid w1; clear w1
  have W2 := Lib.hid w2; clear w2
  clear hcell hcell1 hzl hzl1
  obtain ⟨L1, hL1⟩ : ∃ L1, (z1.take len1).map cfe = L1 := ⟨_, rfl⟩
  obtain ⟨L2, hL2⟩ : ∃ L2, (z2.take len2).map cfe = L2 := ⟨_, rfl⟩
  have hP1 : Plain L1 := hL1 ▸ Plain.cfe _
  have hP2 : Plain L2 := hL2 ▸ Plain.cfe _
  have hN1 : L1.length ≤ len1 := by rw [← hL1, List.length_map, List.length_take]; omega
  have hN2 : L2.length ≤ len2 := by rw [← hL2, List.length_map, List.length_take]; omega
  have HL1 := Lib.hid hL1; clear hL1
  have HL2 := Lib.hid hL2; clear hL2
  have HP1 := Lib.hid hP1; clear hP1
  have HP2 := Lib.hid hP2; clear hP2
  obtain ⟨A, hA⟩ : ∃ A, anyNL L1 = A := ⟨_, rfl⟩
  have HA := Lib.hid hA; clear hA
  go_enter Tryf.func4, Tryf.ntmps4
  go_wp2_with fail
  refine (zzBytes_FxI _ _ _ _ _ _ _ _ hb0 hb1).mono ?_
  rintro e w' ⟨b, rfl, rfl⟩
  cases b
  · go_wp2_with fail
    go_ret
    exact ⟨rfl, Below.refl _ _⟩
  by_cases h2 : 65536 < len1
  · go_wp2_with fail
    go_ret
    exact ⟨rfl, Below.refl _ _⟩
  by_cases h3 : 65536 < len2
  · go_wp2_with fail
    go_ret
    exact ⟨rfl, Below.refl _ _⟩
  cases a0
  · go_wp2_with fail
    refine (zzCodesBreak_any _ _ _ _ z1 W1.out).mono ?_
    rintro e w' ⟨rfl, rfl⟩
    rw [HL1.out, HA.out]
    cases A
    rotate_left 1
    · go_wp2_with fail
      go_ret
      exact ⟨rfl, Below.refl _ _⟩
    go_wp2_with fail
    refine (zzFodder_any _ _ _ _ z1 W1.out (by omega)).mono ?_
    rintro e w1 ⟨v1, rfl, hf1, hk1⟩
    rw [HL1.out] at hf1
    obtain ⟨b1, c1, rfl, -⟩ := hf1.slice
    have HF1 := Lib.hid hf1; clear hf1
    have HK1 := Lib.hid hk1; clear hk1
    go_wp2_with fail
    refine (zzFodder_any _ _ _ _ z2 ((HK1.out.alloc _).ints W2.out (by simp)) (by omega)).mono ?_
    rintro e w2 ⟨v2, rfl, hf2, hk2⟩
    rw [HL2.out, show (w1.alloc (.cells #[.slice b1 L1.length c1] 29)).heap.size = w1.heap.size + 1 by simp] at hf2
    obtain ⟨b2, c2, rfl, -⟩ := hf2.slice
    have htwo := two_new false (Nat.le_refl _) HF1.out HK1.out hf2 hk2
    have hs1 := HK1.out.size
    have hs2 := hk2.size
    rw [show (w1.alloc (.cells #[.slice b1 L1.length c1] 29)).heap.size = w1.heap.size + 1 by simp] at hs2
    have hkk : Kept [] w ((w2.alloc (.cells #[.slice b2 L2.length c2] 29)).alloc (.cells #[.bool false] 4)) := (((HK1.out.alloc _).trans hk2).alloc _).alloc _
    have HT := Lib.hid htwo; clear htwo
    have HKK := Lib.hid hkk; clear hkk
    clear hf2 hk2
    go_wp2_with fail
    refine (ZZfixComma_any _ w.heap.size _ _ _ _ _ _ false _ _ L1 L2 HT.out (by omega) (by simp; omega) HP2.out.head).mono ?_
    rintro e w4 ⟨rfl, ll, lc, hrm, vl, vc, ht4, hk4, -, -, -⟩
    have hk5 : Kept [] w w4 := by
      refine HKK.out.then hk4 ?_
      intro k hk
      simp [Value.ownBlock] at hk
      rcases hk with rfl | rfl | rfl | hk
      · exact Or.inr (by omega)
      · exact Or.inr (by omega)
      · exact Or.inr (by omega)
      · have := (World.ownsRow.lt HF1.out k (by cases b1 <;> simp [Value.ownBlock] at hk ⊢; exact hk)).1
        exact Or.inr this
    have hpl := hrm.plain HP1.out HP2.out
    have hln := hrm.length
    obtain ⟨N, hN⟩ : ∃ N, (anyNL L2 || anyNL L1) = N := ⟨_, rfl⟩
    rw [hN] at ht4
    have hid := fun l2 c2 => FxC.idem hrm (fun _ => HA.out) (l2 := l2) (c2 := c2)
    have hnn := hrm.nlKeeps
    rw [hN] at hid hnn
    have ct := ht4.ct
    have cp := ht4.cp
    have cq := ht4.cq
    obtain ⟨pa, pc, rfl, -⟩ := ht4.l.slice
    obtain ⟨qa, qc, rfl, -⟩ := ht4.c.slice
    have HT4 := Lib.hid ht4; clear ht4
    have HK5 := Lib.hid hk5; clear hk5
    have HPL := Lib.hid hpl; clear hpl
    have HID := Lib.hid hid; clear hid
    have HNN := Lib.hid hnn; clear hnn
    clear hN hrm hk4 HT HKK
    obtain ⟨P, hP⟩ : ∃ P, w1.heap.size = P := ⟨_, rfl⟩
    obtain ⟨Q, hQ⟩ : ∃ Q, w2.heap.size = Q := ⟨_, rfl⟩
    have HPP := Lib.hid hP; clear hP
    have HQQ := Lib.hid hQ; clear hQ
    rw [HPP.out] at HT4 cp hs1 hs2
    rw [HQQ.out] at HT4 cq ct hs2
    rw [HPP.out, HQQ.out]
    go_wp2_with fail
    refine (zzClone_any _ _ _ ll HT4.out.l HPL.out.1 (by omega)).mono ?_
    rintro e w5 ⟨v5, l5, rfl, hf5, hs5, hk5⟩
    have HF5 := Lib.hid hf5; clear hf5
    have HS5 := Lib.hid hs5; clear hs5
    have HT5 := Lib.hid (HT4.out.kept0 hk5)
    have HK6 := Lib.hid (HK5.out.trans hk5)
    have cq5 := HT5.out.cq
    have hz45 := hk5.size
    clear hk5
    go_wp2_with fail
    refine (zzClone_any _ _ _ lc HT5.out.c HPL.out.2 (by omega)).mono ?_
    rintro e w6 ⟨v6, l6, rfl, hf6, hs6, hk6⟩
    have HF6 := Lib.hid hf6; clear hf6
    have HS6 := Lib.hid hs6; clear hs6
    have HT6 := Lib.hid (HT5.out.kept0 hk6)
    have HK7 := Lib.hid (HK6.out.trans hk6)
    have HF5' := Lib.hid (HF5.out.kept hk6 (by simp))
    have ct6 := HT6.out.ct
    have hz56 := hk6.size
    have hw46 := HK7.out.size
    clear hk6
    go_wp2_with fail
    refine (ZZfixComma_any _ w.heap.size _ _ _ _ _ _ N _ _ ll lc HT6.out (by omega) (by omega) HPL.out.2.head).mono ?_
    rintro e w7 ⟨rfl, l2, c2, hrm, vl, vc, ht7, hk7, -, -, -⟩
    obtain ⟨rfl, rfl⟩ := HID.out _ _ hrm
    rw [HNN.out] at ht7
    have hPl : P < w4.heap.size := World.block_lt_of_cell? w4 _ HT4.out.cp
    have hQl : Q < w4.heap.size := World.block_lt_of_cell? w4 _ HT4.out.cq
    have hTl : Q + 1 < w4.heap.size := World.block_lt_of_cell? w4 _ HT4.out.ct
    have hnot : ∀ g, w4.heap.size ≤ g → g ∉ P :: (Q + 1) :: Q :: (Value.slice pa l2.length pc).ownBlock.toList := by
      intro g hg hm
      simp only [List.mem_cons, Option.mem_toList] at hm
      rcases hm with e | e | e | e
      · omega
      · omega
      · omega
      · have := (World.ownsRow.lt HT4.out.l g e).2
        omega
    have HG5 := Lib.hid (HF5'.out.kept hk7 (fun g hg => hnot g (World.ownsRow.lt HF5'.out g hg).1))
    have HG6 := Lib.hid (HF6.out.kept hk7 (fun g hg => hnot g (Nat.le_trans hz45 (World.ownsRow.lt HF6.out g hg).1)))
    have hkw7 : Kept [] w w7 := by
      refine HK7.out.then hk7 ?_
      intro k hk
      simp only [List.mem_cons, Option.mem_toList] at hk
      rcases hk with rfl | rfl | rfl | hk
      · exact Or.inr (by omega)
      · exact Or.inr (by omega)
      · exact Or.inr (by omega)
      · exact Or.inr (World.ownsRow.lt HT6.out.l k hk).1
    have ct7 := ht7.ct
    have cp7 := ht7.cp
    have cq7 := ht7.cq
    obtain ⟨pa7, pc7, rfl, -⟩ := ht7.l.slice
    obtain ⟨qa7, qc7, rfl, -⟩ := ht7.c.slice
    have HT7 := Lib.hid ht7; clear ht7
    have HK7' := Lib.hid hkw7; clear hkw7
    clear hnot hk7 hrm
    have hNN : (N == N) = true := by cases N <;> rfl
    go_wp2_with fail
    refine (zzFodderEq_any _ _ _ _ _ l2 l5 HT7.out.l HG5.out HS5.out).mono ?_
    rintro e w8 ⟨rfl, hk8⟩
    have HT8 := Lib.hid (HT7.out.kept0 hk8)
    have cq8 := HT8.out.cq
    have HG8 := Lib.hid (HG6.out.kept hk8 (by simp))
    have HK8 := Lib.hid (HK7'.out.trans hk8)
    clear hk8
    go_wp2_with fail
    refine (zzFodderEq_any _ _ _ _ _ c2 l6 HT8.out.c HG8.out HS6.out).mono ?_
    rintro e w9 ⟨rfl, hk9⟩
    go_wp2_with fail
    go_ret
    exact ⟨rfl, (HK8.out.trans hk9).below (Nat.le_refl _) (by simp)⟩
  · go_wp2_with fail
    refine (zzFodder_any _ _ _ _ z1 W1.out (by omega)).mono ?_
    rintro e w1 ⟨v1, rfl, hf1, hk1⟩
    rw [HL1.out] at hf1
    obtain ⟨b1, c1, rfl, -⟩ := hf1.slice
    have HF1 := Lib.hid hf1; clear hf1
    have HK1 := Lib.hid hk1; clear hk1
    go_wp2_with fail
    refine (zzFodder_any _ _ _ _ z2 ((HK1.out.alloc _).ints W2.out (by simp)) (by omega)).mono ?_
    rintro e w2 ⟨v2, rfl, hf2, hk2⟩
    rw [HL2.out, show (w1.alloc (.cells #[.slice b1 L1.length c1] 29)).heap.size = w1.heap.size + 1 by simp] at hf2
    obtain ⟨b2, c2, rfl, -⟩ := hf2.slice
    have htwo := two_new true (Nat.le_refl _) HF1.out HK1.out hf2 hk2
    have hs1 := HK1.out.size
    have hs2 := hk2.size
    rw [show (w1.alloc (.cells #[.slice b1 L1.length c1] 29)).heap.size = w1.heap.size + 1 by simp] at hs2
    have hkk : Kept [] w ((w2.alloc (.cells #[.slice b2 L2.length c2] 29)).alloc (.cells #[.bool true] 4)) := (((HK1.out.alloc _).trans hk2).alloc _).alloc _
    have HT := Lib.hid htwo; clear htwo
    have HKK := Lib.hid hkk; clear hkk
    clear hf2 hk2
    go_wp2_with fail
    refine (ZZfixComma_any _ w.heap.size _ _ _ _ _ _ true _ _ L1 L2 HT.out (by omega) (by simp; omega) HP2.out.head).mono ?_
    rintro e w4 ⟨rfl, ll, lc, hrm, vl, vc, ht4, hk4, -, -, -⟩
    have hk5 : Kept [] w w4 := by
      refine HKK.out.then hk4 ?_
      intro k hk
      simp [Value.ownBlock] at hk
      rcases hk with rfl | rfl | rfl | hk
      · exact Or.inr (by omega)
      · exact Or.inr (by omega)
      · exact Or.inr (by omega)
      · have := (World.ownsRow.lt HF1.out k (by cases b1 <;> simp [Value.ownBlock] at hk ⊢; exact hk)).1
        exact Or.inr this
    have hpl := hrm.plain HP1.out HP2.out
    have hln := hrm.length
    obtain ⟨N, hN⟩ : ∃ N, (anyNL L2 || anyNL L1) = N := ⟨_, rfl⟩
    rw [hN] at ht4
    have hid := fun l2 c2 => FxC.idem hrm (fun h => by cases h) (l2 := l2) (c2 := c2)
    have hnn := hrm.nlKeeps
    rw [hN] at hid hnn
    have ct := ht4.ct
    have cp := ht4.cp
    have cq := ht4.cq
    obtain ⟨pa, pc, rfl, -⟩ := ht4.l.slice
    obtain ⟨qa, qc, rfl, -⟩ := ht4.c.slice
    have HT4 := Lib.hid ht4; clear ht4
    have HK5 := Lib.hid hk5; clear hk5
    have HPL := Lib.hid hpl; clear hpl
    have HID := Lib.hid hid; clear hid
    have HNN := Lib.hid hnn; clear hnn
    clear hN hrm hk4 HT HKK
    obtain ⟨P, hP⟩ : ∃ P, w1.heap.size = P := ⟨_, rfl⟩
    obtain ⟨Q, hQ⟩ : ∃ Q, w2.heap.size = Q := ⟨_, rfl⟩
    have HPP := Lib.hid hP; clear hP
    have HQQ := Lib.hid hQ; clear hQ
    rw [HPP.out] at HT4 cp hs1 hs2
    rw [HQQ.out] at HT4 cq ct hs2
    rw [HPP.out, HQQ.out]
    go_wp2_with fail
    refine (zzClone_any _ _ _ ll HT4.out.l HPL.out.1 (by omega)).mono ?_
    rintro e w5 ⟨v5, l5, rfl, hf5, hs5, hk5⟩
    have HF5 := Lib.hid hf5; clear hf5
    have HS5 := Lib.hid hs5; clear hs5
    have HT5 := Lib.hid (HT4.out.kept0 hk5)
    have HK6 := Lib.hid (HK5.out.trans hk5)
    have cq5 := HT5.out.cq
    have hz45 := hk5.size
    clear hk5
    go_wp2_with fail
    refine (zzClone_any _ _ _ lc HT5.out.c HPL.out.2 (by omega)).mono ?_
    rintro e w6 ⟨v6, l6, rfl, hf6, hs6, hk6⟩
    have HF6 := Lib.hid hf6; clear hf6
    have HS6 := Lib.hid hs6; clear hs6
    have HT6 := Lib.hid (HT5.out.kept0 hk6)
    have HK7 := Lib.hid (HK6.out.trans hk6)
    have HF5' := Lib.hid (HF5.out.kept hk6 (by simp))
    have ct6 := HT6.out.ct
    have hz56 := hk6.size
    have hw46 := HK7.out.size
    clear hk6
    go_wp2_with fail
    refine (ZZfixComma_any _ w.heap.size _ _ _ _ _ _ N _ _ ll lc HT6.out (by omega) (by omega) HPL.out.2.head).mono ?_
    rintro e w7 ⟨rfl, l2, c2, hrm, vl, vc, ht7, hk7, -, -, -⟩
    obtain ⟨rfl, rfl⟩ := HID.out _ _ hrm
    rw [HNN.out] at ht7
    have hPl : P < w4.heap.size := World.block_lt_of_cell? w4 _ HT4.out.cp
    have hQl : Q < w4.heap.size := World.block_lt_of_cell? w4 _ HT4.out.cq
    have hTl : Q + 1 < w4.heap.size := World.block_lt_of_cell? w4 _ HT4.out.ct
    have hnot : ∀ g, w4.heap.size ≤ g → g ∉ P :: (Q + 1) :: Q :: (Value.slice pa l2.length pc).ownBlock.toList := by
      intro g hg hm
      simp only [List.mem_cons, Option.mem_toList] at hm
      rcases hm with e | e | e | e
      · omega
      · omega
      · omega
      · have := (World.ownsRow.lt HT4.out.l g e).2
        omega
    have HG5 := Lib.hid (HF5'.out.kept hk7 (fun g hg => hnot g (World.ownsRow.lt HF5'.out g hg).1))
    have HG6 := Lib.hid (HF6.out.kept hk7 (fun g hg => hnot g (Nat.le_trans hz45 (World.ownsRow.lt HF6.out g hg).1)))
    have hkw7 : Kept [] w w7 := by
      refine HK7.out.then hk7 ?_
      intro k hk
      simp only [List.mem_cons, Option.mem_toList] at hk
      rcases hk with rfl | rfl | rfl | hk
      · exact Or.inr (by omega)
      · exact Or.inr (by omega)
      · exact Or.inr (by omega)
      · exact Or.inr (World.ownsRow.lt HT6.out.l k hk).1
    have ct7 := ht7.ct
    have cp7 := ht7.cp
    have cq7 := ht7.cq
    obtain ⟨pa7, pc7, rfl, -⟩ := ht7.l.slice
    obtain ⟨qa7, qc7, rfl, -⟩ := ht7.c.slice
    have HT7 := Lib.hid ht7; clear ht7
    have HK7' := Lib.hid hkw7; clear hkw7
    clear hnot hk7 hrm
    have hNN : (N == N) = true := by cases N <;> rfl
    go_wp2_with fail
    refine (zzFodderEq_any _ _ _ _ _ l2 l5 HT7.out.l HG5.out HS5.out).mono ?_
    rintro e w8 ⟨rfl, hk8⟩
    have HT8 := Lib.hid (HT7.out.kept0 hk8)
    have cq8 := HT8.out.cq
    have HG8 := Lib.hid (HG6.out.kept hk8 (by simp))
    have HK8 := Lib.hid (HK7'.out.trans hk8)
    clear hk8
    go_wp2_with fail
    refine (zzFodderEq_any _ _ _ _ _ c2 l6 HT8.out.c HG8.out HS6.out).mono ?_
    rintro e w9 ⟨rfl, hk9⟩
    go_wp2_with fail
    go_ret
    exact ⟨rfl, (HK8.out.trans hk9).below (Nat.le_refl _) (by simp)⟩
end fnFixCommaIdempotent
end Go.Proofs.YtinaihfbakkcmaaFmt
