/- The contracts of shouldExpandSpec and of its exported name. -/
import Derived.Test.YtgdipdbmllkckaaGreatFmtChn
namespace Go.Proofs.YtgdipdbmllkckaaGreatFmt
open Go.ChangeShapes Go.WideShapes Go.ChangeAt Go.RowKit

theorem Pl.out_ptr (P : Pl) (k : Nat) : ∃ o, P.out k = .pointer o := by
  unfold Pl.out
  split
  · exact ⟨_, rfl⟩
  · exact ⟨_, rfl⟩

set_option maxRecDepth 100000 in
set_option maxHeartbeats 4000000 in
/-- What the fodders of a level and of those outside it say. -/
theorem should_any (base n : Nat) (P : Pl) (v : Nat × Nat → Value) (l : Nat × Nat → List FE) (k : Nat) : k < n → ∀ w, Chn w n P → ChF w base n P v l → Calls Tryz.prog 35 #[P.lvl (v (k, 0)) k] w (Bl (chTo l P.m (k + 1)) w) := by
  induction k with
  | zero =>
    intro hk w h hF
    obtain ⟨va, vn, vc, hv⟩ := (hF.fod (0, 0) ⟨hk, Nat.zero_le _⟩).isSlice
    unfold Pl.lvl nulI
    rw [hv, show P.out 0 = .pointer none from rfl]
    have H := Lib.hid h; clear h
    have HF := Lib.hid hF; clear hF
    have HV := Lib.hid hv; clear hv
    go_enter Tryz.func35, Tryz.ntmps35
    go_wp2_with fail
    have kw : ∀ o, Kept [] w (w.alloc o) := fun o => (Kept.refl [] w).alloc o
    refine (count_any _ base _ (l (0, 0)) (HV.out ▸ ((HF.out.fod (0, 0) ⟨hk, Nat.zero_le _⟩).kept (kw _) (by simp))) (HF.out.kd (0, 0) ⟨hk, Nat.zero_le _⟩)).mono ?_
    rintro e w1 ⟨rfl, k1⟩
    obtain ⟨T, hT⟩ : ∃ T, sumNL (l (0, 0)) = T := ⟨_, rfl⟩
    rw [hT]
    have d2 := k1.cell (p := ⟨w.heap.size, 2, none⟩) (cell_of_block (heap_alloc_new w _) 2) (by simp)
    have K1 := Lib.hid (Kept.trans (kw _) k1); clear k1
    have hcat := H.out.ca 0 hk
    have hml := H.out.ml 0 hk
    obtain ⟨M, hM⟩ : ∃ M, P.m 0 = M := ⟨_, rfl⟩
    rw [hM] at hcat hml d2
    obtain ⟨CA, hCA⟩ : ∃ CA, P.ca 0 = CA := ⟨_, rfl⟩
    rw [hCA] at hcat d2
    have HM := Lib.hid hM; clear hM
    have HCAT := Lib.hid hcat; clear hcat hCA
    obtain ⟨ml1, ml2, ml3⟩ := hml
    unfold maxLen at ml2
    by_cases hT0 : 0 < T
    · have hT2 : decide (0 < sumNL (l (0, 0))) = true := by rw [hT]; exact decide_eq_true hT0
      have hst : (true : Bool) = (false || lvTo l 0 0) := by unfold lvTo; rw [hT2]; simp
      have HST := Lib.hid hst
      clear hst hT2 hT
      go_wp2_with fail
      go_loopw [3, 21] (fun c i wr => ∃ j : Nat, j ≤ M ∧ i = .int .i64 j ∧ c = .bool (false || lvTo l 0 j) ∧ Kept [] w wr) (fun _ i _ => M - (intOf i).toNat)
      case atStart => exact ⟨0, Nat.zero_le _, rfl, by rw [← HST.out], K1.out⟩
      case round =>
        obtain ⟨j, hj, rfl, rfl, hq⟩ := hrel
        have HQ := Lib.hid hq; clear hq
        by_cases hlt : j < M
        · obtain rfl := HCAT.out (by omega)
          have e0 := HQ.out.cell (H.out.ce 0 j hk (by rw [HM.out]; exact hlt)) (by simp)
          have e1 := HQ.out.cell (HF.out.cj 0 j hk (by rw [HM.out]; exact hlt)) (by simp)
          unfold nulI at e0
          obtain ⟨ua, un, uc, hu⟩ := (HF.out.fod (0, j + 1) ⟨hk, by rw [HM.out]; exact hlt⟩).isSlice
          rw [hu] at e1
          have HU := Lib.hid hu; clear hu
          have hes := lvTo_succ l 0 j
          obtain ⟨L0, hL0⟩ : ∃ L0, lvTo l 0 j = L0 := ⟨_, rfl⟩
          rw [hL0] at hes ⊢
          clear hL0
          obtain ⟨U, hU⟩ : ∃ U, sumNL (l (0, j + 1)) = U := ⟨_, rfl⟩
          rw [hU] at hes
          have HES := Lib.hid hes; clear hes
          have HUU := Lib.hid hU; clear hU
          have ka := fun o => HQ.out.alloc o
          have KA := Lib.hid ka; clear ka
          go_wp2_with fail
          refine (count_any _ base _ (l (0, j + 1)) (HU.out ▸ ((HF.out.fod (0, j + 1) ⟨hk, by rw [HM.out]; exact hlt⟩).kept (KA.out _) (by simp))) (HF.out.kd (0, j + 1) ⟨hk, by rw [HM.out]; exact hlt⟩)).mono ?_
          rintro e w2 ⟨rfl, k2⟩
          rw [HUU.out]
          have K2 := Lib.hid ((KA.out _).trans k2); clear k2
          by_cases hU0 : 0 < U
          · go_wp2_with fail
            exact ⟨⟨j + 1, by omega, by go_num, by rw [HES.out]; simp [hU0], K2.out⟩, by simp [intOf]; omega⟩
          · go_wp2_with fail
            exact ⟨⟨j + 1, by omega, by go_num, by rw [HES.out, decide_eq_false (show ¬ 0 < U by omega)]; simp, K2.out⟩, by simp [intOf]; omega⟩
        · obtain rfl : j = M := by omega
          have hfin : (false || lvTo l 0 j) = chTo l P.m (0 + 1) := by rw [chTo_succ, HM.out, show chTo l P.m 0 = false from rfl]
          have HFIN := Lib.hid hfin; clear hfin
          obtain ⟨R, hR⟩ : ∃ R, (false || lvTo l 0 j) = R := ⟨_, rfl⟩
          rw [hR] at HFIN ⊢
          clear hR
          go_wp2_with fail
          go_ret
          exact ⟨by rw [← HFIN.out]; rfl, HQ.out⟩
    · have hT2 : decide (0 < sumNL (l (0, 0))) = false := by rw [hT]; exact decide_eq_false hT0
      have hst : (false : Bool) = (false || lvTo l 0 0) := by unfold lvTo; rw [hT2]; simp
      have HST := Lib.hid hst
      clear hst hT2 hT
      go_wp2_with fail
      go_loopw [3, 21] (fun c i wr => ∃ j : Nat, j ≤ M ∧ i = .int .i64 j ∧ c = .bool (false || lvTo l 0 j) ∧ Kept [] w wr) (fun _ i _ => M - (intOf i).toNat)
      case atStart => exact ⟨0, Nat.zero_le _, rfl, by rw [← HST.out], K1.out⟩
      case round =>
        obtain ⟨j, hj, rfl, rfl, hq⟩ := hrel
        have HQ := Lib.hid hq; clear hq
        by_cases hlt : j < M
        · obtain rfl := HCAT.out (by omega)
          have e0 := HQ.out.cell (H.out.ce 0 j hk (by rw [HM.out]; exact hlt)) (by simp)
          have e1 := HQ.out.cell (HF.out.cj 0 j hk (by rw [HM.out]; exact hlt)) (by simp)
          unfold nulI at e0
          obtain ⟨ua, un, uc, hu⟩ := (HF.out.fod (0, j + 1) ⟨hk, by rw [HM.out]; exact hlt⟩).isSlice
          rw [hu] at e1
          have HU := Lib.hid hu; clear hu
          have hes := lvTo_succ l 0 j
          obtain ⟨L0, hL0⟩ : ∃ L0, lvTo l 0 j = L0 := ⟨_, rfl⟩
          rw [hL0] at hes ⊢
          clear hL0
          obtain ⟨U, hU⟩ : ∃ U, sumNL (l (0, j + 1)) = U := ⟨_, rfl⟩
          rw [hU] at hes
          have HES := Lib.hid hes; clear hes
          have HUU := Lib.hid hU; clear hU
          have ka := fun o => HQ.out.alloc o
          have KA := Lib.hid ka; clear ka
          go_wp2_with fail
          refine (count_any _ base _ (l (0, j + 1)) (HU.out ▸ ((HF.out.fod (0, j + 1) ⟨hk, by rw [HM.out]; exact hlt⟩).kept (KA.out _) (by simp))) (HF.out.kd (0, j + 1) ⟨hk, by rw [HM.out]; exact hlt⟩)).mono ?_
          rintro e w2 ⟨rfl, k2⟩
          rw [HUU.out]
          have K2 := Lib.hid ((KA.out _).trans k2); clear k2
          by_cases hU0 : 0 < U
          · go_wp2_with fail
            exact ⟨⟨j + 1, by omega, by go_num, by rw [HES.out]; simp [hU0], K2.out⟩, by simp [intOf]; omega⟩
          · go_wp2_with fail
            exact ⟨⟨j + 1, by omega, by go_num, by rw [HES.out, decide_eq_false (show ¬ 0 < U by omega)]; simp, K2.out⟩, by simp [intOf]; omega⟩
        · obtain rfl : j = M := by omega
          have hfin : (false || lvTo l 0 j) = chTo l P.m (0 + 1) := by rw [chTo_succ, HM.out, show chTo l P.m 0 = false from rfl]
          have HFIN := Lib.hid hfin; clear hfin
          obtain ⟨R, hR⟩ : ∃ R, (false || lvTo l 0 j) = R := ⟨_, rfl⟩
          rw [hR] at HFIN ⊢
          clear hR
          go_wp2_with fail
          go_ret
          exact ⟨by rw [← HFIN.out]; rfl, HQ.out⟩
  | succ k ih =>
    intro hk w h hF
    obtain ⟨va, vn, vc, hv⟩ := (hF.fod (k + 1, 0) ⟨hk, Nat.zero_le _⟩).isSlice
    obtain ⟨ua, un, uc, hu⟩ := (hF.fod (k, 0) ⟨by dsimp only; omega, Nat.zero_le _⟩).isSlice
    obtain ⟨po, hpo⟩ := P.out_ptr k
    have hpo1 : P.out (k + 1) = .pointer (some ⟨P.b k, P.o k, none⟩) := by unfold Pl.out; rw [if_neg (by omega)]; rfl
    have kw0 : ∀ o, Kept [] w (w.alloc o) := fun o => (Kept.refl [] w).alloc o
    have a0 := fun o => (kw0 o).cell (hF.c0 k (by omega)) (by simp)
    have a1 := fun o => (kw0 o).cell (h.c1 k (by omega)) (by simp)
    have a2 := fun o => (kw0 o).cell (h.c2 k (by omega)) (by simp)
    have a3 := fun o => (kw0 o).cell (h.c3 k (by omega)) (by simp)
    have a4 := fun o => (kw0 o).cell (h.c4 k (by omega)) (by simp)
    have a5 := fun o => (kw0 o).cell (h.c5 k (by omega)) (by simp)
    have a6 := fun o => (kw0 o).cell (h.c6 k (by omega)) (by simp)
    have hrec : ∀ w', Kept [] w w' → Calls Tryz.prog 35 #[P.lvl (v (k, 0)) k] w' (Bl (chTo l P.m (k + 1)) w') := fun w' q => ih (by omega) w' (h.kept q) (hF.kept q)
    unfold Pl.lvl nulI at hrec
    unfold Pl.lvl nulI
    unfold nulI at a4
    simp only [hu] at a0
    simp only [hpo] at a3
    rw [hu, hpo] at hrec
    rw [hv, hpo1]
    have H := Lib.hid h; clear h
    have HF := Lib.hid hF; clear hF
    have HV := Lib.hid hv; clear hv
    have HREC := Lib.hid hrec; clear hrec
    clear hu hpo hpo1 ih
    have KW := Lib.hid kw0; clear kw0
    go_enter Tryz.func35, Tryz.ntmps35
    go_wp2_with fail
    refine (HREC.out _ (KW.out _)).mono ?_
    rintro e w0 ⟨rfl, k0⟩
    have c0' := k0.cell (p := ⟨w.heap.size, 0, none⟩) (cell_of_block (heap_alloc_new w _) 0) (by simp)
    have c2' := k0.cell (p := ⟨w.heap.size, 2, none⟩) (cell_of_block (heap_alloc_new w _) 2) (by simp)
    have kw0 := Lib.hid ((KW.out _).trans k0)
    clear k0 a0 a1 a2 a3 a4 a5 a6
    obtain ⟨E, hE⟩ : ∃ E, chTo l P.m (k + 1) = E := ⟨_, rfl⟩
    rw [hE]
    have HE := Lib.hid hE; clear hE
    go_wp2_with fail
    refine (count_any _ base _ (l ((k + 1), 0)) (HV.out ▸ ((HF.out.fod ((k + 1), 0) ⟨hk, Nat.zero_le _⟩).kept kw0.out (by simp))) (HF.out.kd ((k + 1), 0) ⟨hk, Nat.zero_le _⟩)).mono ?_
    rintro e w1 ⟨rfl, k1⟩
    obtain ⟨T, hT⟩ : ∃ T, sumNL (l ((k + 1), 0)) = T := ⟨_, rfl⟩
    rw [hT]
    have d2 := k1.cell (p := ⟨w.heap.size, 2, none⟩) c2' (by simp)
    have K1 := Lib.hid (Kept.trans kw0.out k1); clear k1
    have hcat := H.out.ca (k + 1) hk
    have hml := H.out.ml (k + 1) hk
    obtain ⟨M, hM⟩ : ∃ M, P.m (k + 1) = M := ⟨_, rfl⟩
    rw [hM] at hcat hml d2
    obtain ⟨CA, hCA⟩ : ∃ CA, P.ca (k + 1) = CA := ⟨_, rfl⟩
    rw [hCA] at hcat d2
    have HM := Lib.hid hM; clear hM
    have HCAT := Lib.hid hcat; clear hcat hCA
    obtain ⟨ml1, ml2, ml3⟩ := hml
    unfold maxLen at ml2
    by_cases hT0 : 0 < T
    · have hT2 : decide (0 < sumNL (l ((k + 1), 0))) = true := by rw [hT]; exact decide_eq_true hT0
      have hst : (true : Bool) = (E || lvTo l (k + 1) 0) := by unfold lvTo; rw [hT2]; simp
      have HST := Lib.hid hst
      clear hst hT2 hT
      go_wp2_with fail
      go_loopw [3, 21] (fun c i wr => ∃ j : Nat, j ≤ M ∧ i = .int .i64 j ∧ c = .bool (E || lvTo l (k + 1) j) ∧ Kept [] w wr) (fun _ i _ => M - (intOf i).toNat)
      case atStart => exact ⟨0, Nat.zero_le _, rfl, by rw [← HST.out], K1.out⟩
      case round =>
        obtain ⟨j, hj, rfl, rfl, hq⟩ := hrel
        have HQ := Lib.hid hq; clear hq
        by_cases hlt : j < M
        · obtain rfl := HCAT.out (by omega)
          have e0 := HQ.out.cell (H.out.ce (k + 1) j hk (by rw [HM.out]; exact hlt)) (by simp)
          have e1 := HQ.out.cell (HF.out.cj (k + 1) j hk (by rw [HM.out]; exact hlt)) (by simp)
          unfold nulI at e0
          obtain ⟨ua, un, uc, hu⟩ := (HF.out.fod ((k + 1), j + 1) ⟨hk, by rw [HM.out]; exact hlt⟩).isSlice
          rw [hu] at e1
          have HU := Lib.hid hu; clear hu
          have hes := lvTo_succ l (k + 1) j
          obtain ⟨L0, hL0⟩ : ∃ L0, lvTo l (k + 1) j = L0 := ⟨_, rfl⟩
          rw [hL0] at hes ⊢
          clear hL0
          obtain ⟨U, hU⟩ : ∃ U, sumNL (l ((k + 1), j + 1)) = U := ⟨_, rfl⟩
          rw [hU] at hes
          have HES := Lib.hid hes; clear hes
          have HUU := Lib.hid hU; clear hU
          have ka := fun o => HQ.out.alloc o
          have KA := Lib.hid ka; clear ka
          go_wp2_with fail
          refine (count_any _ base _ (l ((k + 1), j + 1)) (HU.out ▸ ((HF.out.fod ((k + 1), j + 1) ⟨hk, by rw [HM.out]; exact hlt⟩).kept (KA.out _) (by simp))) (HF.out.kd ((k + 1), j + 1) ⟨hk, by rw [HM.out]; exact hlt⟩)).mono ?_
          rintro e w2 ⟨rfl, k2⟩
          rw [HUU.out]
          have K2 := Lib.hid ((KA.out _).trans k2); clear k2
          by_cases hU0 : 0 < U
          · go_wp2_with fail
            exact ⟨⟨j + 1, by omega, by go_num, by rw [HES.out]; simp [hU0], K2.out⟩, by simp [intOf]; omega⟩
          · go_wp2_with fail
            exact ⟨⟨j + 1, by omega, by go_num, by rw [HES.out, decide_eq_false (show ¬ 0 < U by omega)]; simp, K2.out⟩, by simp [intOf]; omega⟩
        · obtain rfl : j = M := by omega
          have hfin : (E || lvTo l (k + 1) j) = chTo l P.m ((k + 1) + 1) := by rw [chTo_succ, HM.out, HE.out]
          have HFIN := Lib.hid hfin; clear hfin
          obtain ⟨R, hR⟩ : ∃ R, (E || lvTo l (k + 1) j) = R := ⟨_, rfl⟩
          rw [hR] at HFIN ⊢
          clear hR
          go_wp2_with fail
          go_ret
          exact ⟨by rw [← HFIN.out]; rfl, HQ.out⟩
    · have hT2 : decide (0 < sumNL (l ((k + 1), 0))) = false := by rw [hT]; exact decide_eq_false hT0
      have hst : (E : Bool) = (E || lvTo l (k + 1) 0) := by unfold lvTo; rw [hT2]; simp
      have HST := Lib.hid hst
      clear hst hT2 hT
      go_wp2_with fail
      go_loopw [3, 21] (fun c i wr => ∃ j : Nat, j ≤ M ∧ i = .int .i64 j ∧ c = .bool (E || lvTo l (k + 1) j) ∧ Kept [] w wr) (fun _ i _ => M - (intOf i).toNat)
      case atStart => exact ⟨0, Nat.zero_le _, rfl, by rw [← HST.out], K1.out⟩
      case round =>
        obtain ⟨j, hj, rfl, rfl, hq⟩ := hrel
        have HQ := Lib.hid hq; clear hq
        by_cases hlt : j < M
        · obtain rfl := HCAT.out (by omega)
          have e0 := HQ.out.cell (H.out.ce (k + 1) j hk (by rw [HM.out]; exact hlt)) (by simp)
          have e1 := HQ.out.cell (HF.out.cj (k + 1) j hk (by rw [HM.out]; exact hlt)) (by simp)
          unfold nulI at e0
          obtain ⟨ua, un, uc, hu⟩ := (HF.out.fod ((k + 1), j + 1) ⟨hk, by rw [HM.out]; exact hlt⟩).isSlice
          rw [hu] at e1
          have HU := Lib.hid hu; clear hu
          have hes := lvTo_succ l (k + 1) j
          obtain ⟨L0, hL0⟩ : ∃ L0, lvTo l (k + 1) j = L0 := ⟨_, rfl⟩
          rw [hL0] at hes ⊢
          clear hL0
          obtain ⟨U, hU⟩ : ∃ U, sumNL (l ((k + 1), j + 1)) = U := ⟨_, rfl⟩
          rw [hU] at hes
          have HES := Lib.hid hes; clear hes
          have HUU := Lib.hid hU; clear hU
          have ka := fun o => HQ.out.alloc o
          have KA := Lib.hid ka; clear ka
          go_wp2_with fail
          refine (count_any _ base _ (l ((k + 1), j + 1)) (HU.out ▸ ((HF.out.fod ((k + 1), j + 1) ⟨hk, by rw [HM.out]; exact hlt⟩).kept (KA.out _) (by simp))) (HF.out.kd ((k + 1), j + 1) ⟨hk, by rw [HM.out]; exact hlt⟩)).mono ?_
          rintro e w2 ⟨rfl, k2⟩
          rw [HUU.out]
          have K2 := Lib.hid ((KA.out _).trans k2); clear k2
          by_cases hU0 : 0 < U
          · go_wp2_with fail
            exact ⟨⟨j + 1, by omega, by go_num, by rw [HES.out]; simp [hU0], K2.out⟩, by simp [intOf]; omega⟩
          · go_wp2_with fail
            exact ⟨⟨j + 1, by omega, by go_num, by rw [HES.out, decide_eq_false (show ¬ 0 < U by omega)]; simp, K2.out⟩, by simp [intOf]; omega⟩
        · obtain rfl : j = M := by omega
          have hfin : (E || lvTo l (k + 1) j) = chTo l P.m ((k + 1) + 1) := by rw [chTo_succ, HM.out, HE.out]
          have HFIN := Lib.hid hfin; clear hfin
          obtain ⟨R, hR⟩ : ∃ R, (E || lvTo l (k + 1) j) = R := ⟨_, rfl⟩
          rw [hR] at HFIN ⊢
          clear hR
          go_wp2_with fail
          go_ret
          exact ⟨by rw [← HFIN.out]; rfl, HQ.out⟩

end Go.Proofs.YtgdipdbmllkckaaGreatFmt
