/- The walk of the law FnObjectFieldKindTableExact: it returns true at every kind, flag and text, and writes nothing that was there. -/
import Derived.Test.YtepipmjcfnncdaaFmtPFzP
namespace Go.Proofs.YtepipmjcfnncdaaFmt
open Go.ChangeShapes Go.WideShapes Go.ChangeAt Go.RowKit

set_option maxHeartbeats 1000000 in
theorem zzBytes_PFt (w : World) (k : Int) (b : Bool) (s : ByteArray) (h0 : s.size ≤ 9223372036854775807) :
    Calls Tryf.prog 57 #[.int .i64 k, .bool b, .string s] w (SomeBool w) := by
  go_enter Tryf.func57, Tryf.ntmps57
  go_wp2
  all_goals
    go_ret
    exact ⟨_, rfl, rfl⟩

namespace fnObjectFieldKindTableExact
set_option maxRecDepth 100000 in
set_option maxHeartbeats 8000000 in
theorem walk (a0 : Int) (a1 : Bool) (a2 : ByteArray) (w : World) (_ : (Lit.int .i64 a0).wf = true) (w2 : a2.size ≤ maxLen) :
    Calls Tryf.prog 10 #[.int .i64 a0, .bool a1, .string a2] w fun e w' => e = .returned (.bool true) ∧ Below w.heap.size w w' := by
  unfold maxLen at w2
  obtain ⟨I, hI⟩ : ∃ I, identB a2 = I := ⟨_, rfl⟩
  have HI := Lib.hid hI; clear hI
  by_cases hlo : a0 < 0
  · go_enter Tryf.func10, Tryf.ntmps10
    go_wp2_with fail
    refine (zzBytes_PFt _ _ _ _ w2).mono ?_
    rintro e w' ⟨b, rfl, rfl⟩
    cases b
    · go_wp2_with fail
      go_ret
      exact ⟨rfl, Below.refl _ _⟩
    by_cases h1 : 65536 < a2.size
    · go_wp2_with fail
      go_ret
      exact ⟨rfl, Below.refl _ _⟩
    go_wp2_with fail
    go_ret
    exact ⟨rfl, Below.refl _ _⟩
  by_cases hhi : 2 < a0
  · go_enter Tryf.func10, Tryf.ntmps10
    go_wp2_with fail
    refine (zzBytes_PFt _ _ _ _ w2).mono ?_
    rintro e w' ⟨b, rfl, rfl⟩
    cases b
    · go_wp2_with fail
      go_ret
      exact ⟨rfl, Below.refl _ _⟩
    by_cases h1 : 65536 < a2.size
    · go_wp2_with fail
      go_ret
      exact ⟨rfl, Below.refl _ _⟩
    go_wp2_with fail
    go_ret
    exact ⟨rfl, Below.refl _ _⟩
  have hk : a0 = 2 ∨ a0 = 0 ∨ a0 = 1 := by omega
  rcases hk with rfl | rfl | rfl
  · go_enter Tryf.func10, Tryf.ntmps10
    go_wp2_with fail
    refine (zzBytes_PFt _ _ _ _ w2).mono ?_
    rintro e w' ⟨b, rfl, rfl⟩
    cases b
    · go_wp2_with fail
      go_ret
      exact ⟨rfl, Below.refl _ _⟩
    by_cases h1 : 65536 < a2.size
    · go_wp2_with fail
      go_ret
      exact ⟨rfl, Below.refl _ _⟩
    by_cases h2 : (a2.toList == [105, 109, 112, 111, 114, 116, 98, 105, 110]) = true
    · go_wp2_with fail
      go_ret
      exact ⟨rfl, Below.refl _ _⟩
    rw [Bool.not_eq_true] at h2
    have hs : a2.size ≤ 1048576 := by omega
    go_wp2_with fail
    refine (build_id _ _ _).mono ?_
    rintro e w1 ⟨rfl, hF, hP, k1⟩
    obtain ⟨nb, hnbe⟩ : ∃ nb, w.heap.size + 1 = nb := ⟨_, rfl⟩
    obtain ⟨yb, hybe⟩ : ∃ yb, w.heap.size + 2 = yb := ⟨_, rfl⟩
    obtain ⟨B, hB⟩ : ∃ B, w.heap.size = B := ⟨_, rfl⟩
    rw [hnbe] at hF ⊢
    rw [hybe] at hP
    rw [hybe] at hF
    (try rw [hybe])
    rw [hB] at hF
    have hnb : nb < w1.heap.size := World.block_lt_of_cell? w1 ⟨nb, 0, none⟩ hF.c0
    have hyn : yb ≠ nb := by omega
    have hBn : w.heap.size ≤ nb := by omega
    have hBs : B ≤ w1.heap.size := by rw [← hB]; exact k1.size
    have HF := Lib.hid hF; clear hF
    have HP := Lib.hid hP; clear hP
    have K1 := Lib.hid k1; clear k1
    have HB := Lib.hid hB; clear hB
    clear hnbe hybe
    go_wp2_with fail
    have qp := pass_kept w1
    have hp := pass_new w1
    refine (zzPF _ nb (fun w' => Kept [] (w1.alloc (.cells #[] 158)) w') (pf_id _ B nb _ _ _ _ _ _ _ (HF.out.kept qp) hp)).mono ?_
    rintro e w2 ⟨rfl, k2⟩
    have k3 := qp.trans k2
    have F2 := Lib.hid (HF.out.kept k3)
    have P2 := k3.cell HP.out (by simp)
    have K2 := Lib.hid (K1.out.trans k3)
    clear qp hp k2 k3
    have c15 := F2.out.c15
    have c1 := F2.out.c1
    have c6 := F2.out.c6
    have e1 := fun w => eqlNN w
    go_wp2_with fail
    go_ret
    exact ⟨rfl, K2.out.below (Nat.le_refl _) (by simp)⟩
  · go_enter Tryf.func10, Tryf.ntmps10
    go_wp2_with fail
    refine (zzBytes_PFt _ _ _ _ w2).mono ?_
    rintro e w' ⟨b, rfl, rfl⟩
    cases b
    · go_wp2_with fail
      go_ret
      exact ⟨rfl, Below.refl _ _⟩
    by_cases h1 : 65536 < a2.size
    · go_wp2_with fail
      go_ret
      exact ⟨rfl, Below.refl _ _⟩
    by_cases h2 : (a2.toList == [105, 109, 112, 111, 114, 116, 98, 105, 110]) = true
    · go_wp2_with fail
      go_ret
      exact ⟨rfl, Below.refl _ _⟩
    rw [Bool.not_eq_true] at h2
    have hs : a2.size ≤ 1048576 := by omega
    go_wp2_with fail
    cases a1
    · refine (build_var0 _ _).mono ?_
      rintro e w1 ⟨rfl, hF, hP, k1⟩
      obtain ⟨nb, hnbe⟩ : ∃ nb, w.heap.size + 1 = nb := ⟨_, rfl⟩
      obtain ⟨yb, hybe⟩ : ∃ yb, w.heap.size + 2 = yb := ⟨_, rfl⟩
      obtain ⟨B, hB⟩ : ∃ B, w.heap.size = B := ⟨_, rfl⟩
      rw [hnbe] at hF ⊢
      rw [hybe] at hP
      rw [hybe] at hF
      (try rw [hybe])
      rw [hB] at hF
      have hnb : nb < w1.heap.size := World.block_lt_of_cell? w1 ⟨nb, 0, none⟩ hF.c0
      have hyn : yb ≠ nb := by omega
      have hBn : w.heap.size ≤ nb := by omega
      have hBs : B ≤ w1.heap.size := by rw [← hB]; exact k1.size
      have HF := Lib.hid hF; clear hF
      have HP := Lib.hid hP; clear hP
      have K1 := Lib.hid k1; clear k1
      have HB := Lib.hid hB; clear hB
      clear hnbe hybe
      go_wp2_with fail
      have qp := pass_kept w1
      have hp := pass_new w1
      refine (zzPF _ nb (fun w' => Kept [] (w1.alloc (.cells #[] 158)) w') (pf_expV _ B nb _ yb _ _ _ _ _ _ (HF.out.kept qp) (HP.out.kept qp (by simp)) hp)).mono ?_
      rintro e w2 ⟨rfl, k2⟩
      have k3 := qp.trans k2
      have F2 := Lib.hid (HF.out.kept k3)
      have P2 := Lib.hid (HP.out.kept k3 (by simp))
      have K2 := Lib.hid (K1.out.trans k3)
      clear qp hp k2 k3
      have c15 := F2.out.c15
      have c1 := F2.out.c1
      have c6 := F2.out.c6
      have e1 := fun w => neqN w 58 (.pointer (some ⟨yb, 0, none⟩))
      have e2 := fun w => eqlVar w yb
      go_wp2_with fail
      refine (zzAsVar_var _ _).mono ?_
      rintro e w' ⟨rfl, rfl⟩
      go_wp2_with fail
      go_ret
      exact ⟨rfl, K2.out.below (Nat.le_refl _) (by simp)⟩
    · refine (build_lit0 _ _).mono ?_
      rintro e w1 ⟨rfl, hF, hP, k1⟩
      obtain ⟨nb, hnbe⟩ : ∃ nb, w.heap.size + 1 = nb := ⟨_, rfl⟩
      obtain ⟨yb, hybe⟩ : ∃ yb, w.heap.size + 2 = yb := ⟨_, rfl⟩
      obtain ⟨B, hB⟩ : ∃ B, w.heap.size = B := ⟨_, rfl⟩
      rw [hnbe] at hF ⊢
      rw [hybe] at hP
      rw [hybe] at hF
      (try rw [hybe])
      rw [hB] at hF
      have hnb : nb < w1.heap.size := World.block_lt_of_cell? w1 ⟨nb, 0, none⟩ hF.c0
      have hyn : yb ≠ nb := by omega
      have hBn : w.heap.size ≤ nb := by omega
      have hBs : B ≤ w1.heap.size := by rw [← hB]; exact k1.size
      have HF := Lib.hid hF; clear hF
      have HP := Lib.hid hP; clear hP
      have K1 := Lib.hid k1; clear k1
      have HB := Lib.hid hB; clear hB
      clear hnbe hybe
      go_wp2_with fail
      cases I
      · have qp := pass_kept w1
        have hp := pass_new w1
        refine (zzPF _ nb (Stays (w1.alloc (.cells #[] 158)) B nb B yb (.pointer none)) (pf_expL_no _ B nb _ yb _ _ _ a2 (HF.out.kept qp) (HP.out.kept qp (by simp)) hyn hp (by omega) hs HI.out (Nat.le_trans hBs qp.size))).mono ?_
        rintro e w2 ⟨rfl, g1, g2, f2, k4⟩
        have P2 := Lib.hid ((HP.out.kept qp (by simp)).kept k4 (by simp [hyn]))
        have K2 := Lib.hid ((K1.out.trans qp).then k4 (by intro x hx; simp at hx; subst hx; exact Or.inr hBn))
        have F2 := Lib.hid f2
        clear qp hp k4 f2
        go_wp2_with fail
        refine (zzIsIdent_any _ a2 hs).mono ?_
        rintro e w' ⟨rfl, rfl⟩
        rw [HI.out]
        have c15 := F2.out.c15
        have c1 := F2.out.c1
        have c6 := F2.out.c6
        have pv := P2.out.v
        have e1 := fun w => neqN w 25 (.pointer (some ⟨yb, 0, none⟩))
        have e2 := fun w => eqlLit w yb
        go_wp2_with fail
        refine (zzAsLit_lit _ _).mono ?_
        rintro e w' ⟨rfl, rfl⟩
        go_wp2_with fail
        go_ret
        exact ⟨rfl, K2.out.below (Nat.le_refl _) (by simp)⟩
      · have qp := pass_kept w1
        have hp := pass_new w1
        refine (zzPF _ nb (Named2 (w1.alloc (.cells #[] 158)) B nb B a2) (pf_expL_yes _ B nb _ yb _ _ _ a2 (HF.out.kept qp) (HP.out.kept qp (by simp)) hyn hp (by omega) hs HI.out (Nat.le_trans hBs qp.size))).mono ?_
        rintro e w2 ⟨rfl, ib, g2, f2, P2, k4⟩
        have K2 := Lib.hid ((K1.out.trans qp).then k4 (by intro x hx; simp at hx; subst hx; exact Or.inr hBn))
        have F2 := Lib.hid f2
        clear qp hp k4 f2
        go_wp2_with fail
        refine (zzIsIdent_any _ a2 hs).mono ?_
        rintro e w' ⟨rfl, rfl⟩
        rw [HI.out]
        have c15 := F2.out.c15
        have c1 := F2.out.c1
        have c6 := F2.out.c6
        have e1 := fun w => eqlNN w
        go_wp2_with fail
        go_ret
        exact ⟨rfl, K2.out.below (Nat.le_refl _) (by simp)⟩
  · go_enter Tryf.func10, Tryf.ntmps10
    go_wp2_with fail
    refine (zzBytes_PFt _ _ _ _ w2).mono ?_
    rintro e w' ⟨b, rfl, rfl⟩
    cases b
    · go_wp2_with fail
      go_ret
      exact ⟨rfl, Below.refl _ _⟩
    by_cases h1 : 65536 < a2.size
    · go_wp2_with fail
      go_ret
      exact ⟨rfl, Below.refl _ _⟩
    by_cases h2 : (a2.toList == [105, 109, 112, 111, 114, 116, 98, 105, 110]) = true
    · go_wp2_with fail
      go_ret
      exact ⟨rfl, Below.refl _ _⟩
    rw [Bool.not_eq_true] at h2
    have hs : a2.size ≤ 1048576 := by omega
    go_wp2_with fail
    cases a1
    · refine (build_var1 _ _).mono ?_
      rintro e w1 ⟨rfl, hF, hP, k1⟩
      obtain ⟨nb, hnbe⟩ : ∃ nb, w.heap.size + 1 = nb := ⟨_, rfl⟩
      obtain ⟨yb, hybe⟩ : ∃ yb, w.heap.size + 2 = yb := ⟨_, rfl⟩
      obtain ⟨B, hB⟩ : ∃ B, w.heap.size = B := ⟨_, rfl⟩
      rw [hnbe] at hF ⊢
      rw [hybe] at hP
      rw [hybe] at hF
      (try rw [hybe])
      rw [hB] at hF
      have hnb : nb < w1.heap.size := World.block_lt_of_cell? w1 ⟨nb, 0, none⟩ hF.c0
      have hyn : yb ≠ nb := by omega
      have hBn : w.heap.size ≤ nb := by omega
      have hBs : B ≤ w1.heap.size := by rw [← hB]; exact k1.size
      have HF := Lib.hid hF; clear hF
      have HP := Lib.hid hP; clear hP
      have K1 := Lib.hid k1; clear k1
      have HB := Lib.hid hB; clear hB
      clear hnbe hybe
      go_wp2_with fail
      have qp := pass_kept w1
      have hp := pass_new w1
      refine (zzPF _ nb (fun w' => Kept [] (w1.alloc (.cells #[] 158)) w') (pf_strV _ B nb _ yb _ _ _ _ _ _ (HF.out.kept qp) (HP.out.kept qp (by simp)) hp)).mono ?_
      rintro e w2 ⟨rfl, k2⟩
      have k3 := qp.trans k2
      have F2 := Lib.hid (HF.out.kept k3)
      have P2 := Lib.hid (HP.out.kept k3 (by simp))
      have K2 := Lib.hid (K1.out.trans k3)
      clear qp hp k2 k3
      have c15 := F2.out.c15
      have c1 := F2.out.c1
      have c6 := F2.out.c6
      have e1 := fun w => neqN w 58 (.pointer (some ⟨yb, 0, none⟩))
      have e2 := fun w => eqlVar w yb
      go_wp2_with fail
      refine (zzAsVar_var _ _).mono ?_
      rintro e w' ⟨rfl, rfl⟩
      go_wp2_with fail
      go_ret
      exact ⟨rfl, K2.out.below (Nat.le_refl _) (by simp)⟩
    · refine (build_lit1 _ _).mono ?_
      rintro e w1 ⟨rfl, hF, hP, k1⟩
      obtain ⟨nb, hnbe⟩ : ∃ nb, w.heap.size + 1 = nb := ⟨_, rfl⟩
      obtain ⟨yb, hybe⟩ : ∃ yb, w.heap.size + 2 = yb := ⟨_, rfl⟩
      obtain ⟨B, hB⟩ : ∃ B, w.heap.size = B := ⟨_, rfl⟩
      rw [hnbe] at hF ⊢
      rw [hybe] at hP
      rw [hybe] at hF
      (try rw [hybe])
      rw [hB] at hF
      have hnb : nb < w1.heap.size := World.block_lt_of_cell? w1 ⟨nb, 0, none⟩ hF.c0
      have hyn : yb ≠ nb := by omega
      have hBn : w.heap.size ≤ nb := by omega
      have hBs : B ≤ w1.heap.size := by rw [← hB]; exact k1.size
      have HF := Lib.hid hF; clear hF
      have HP := Lib.hid hP; clear hP
      have K1 := Lib.hid k1; clear k1
      have HB := Lib.hid hB; clear hB
      clear hnbe hybe
      go_wp2_with fail
      cases I
      · have qp := pass_kept w1
        have hp := pass_new w1
        refine (zzPF _ nb (fun w' => Kept [] (w1.alloc (.cells #[] 158)) w') (pf_strL_no _ B nb _ yb _ _ _ _ _ _ a2 (HF.out.kept qp) (HP.out.kept qp (by simp)) hp hs HI.out)).mono ?_
        rintro e w2 ⟨rfl, k2⟩
        obtain ⟨g1, g2, f2, k4⟩ := stays_of (HF.out.kept qp) k2
        have P2 := Lib.hid ((HP.out.kept qp (by simp)).kept k4 (by simp [hyn]))
        have K2 := Lib.hid ((K1.out.trans qp).then k4 (by intro x hx; simp at hx; subst hx; exact Or.inr hBn))
        have F2 := Lib.hid f2
        clear qp hp k4 f2
        clear k2
        go_wp2_with fail
        refine (zzIsIdent_any _ a2 hs).mono ?_
        rintro e w' ⟨rfl, rfl⟩
        rw [HI.out]
        have c15 := F2.out.c15
        have c1 := F2.out.c1
        have c6 := F2.out.c6
        have pv := P2.out.v
        have e1 := fun w => neqN w 25 (.pointer (some ⟨yb, 0, none⟩))
        have e2 := fun w => eqlLit w yb
        go_wp2_with fail
        refine (zzAsLit_lit _ _).mono ?_
        rintro e w' ⟨rfl, rfl⟩
        go_wp2_with fail
        go_ret
        exact ⟨rfl, K2.out.below (Nat.le_refl _) (by simp)⟩
      · have qp := pass_kept w1
        have hp := pass_new w1
        refine (zzPF _ nb (Named (w1.alloc (.cells #[] 158)) B nb B a2 nilF nilF) (pf_strL_yes _ B nb _ yb _ _ _ _ _ _ a2 (HF.out.kept qp) (by simp [Value.ownBlock]) (by simp [Value.ownBlock]) (HP.out.kept qp (by simp)) hyn hp (by omega) hs HI.out)).mono ?_
        rintro e w2 ⟨rfl, ib, f2, P2, k4⟩
        have K2 := Lib.hid ((K1.out.trans qp).then k4 (by intro x hx; simp at hx; subst hx; exact Or.inr hBn))
        have F2 := Lib.hid f2
        clear qp hp k4 f2
        go_wp2_with fail
        refine (zzIsIdent_any _ a2 hs).mono ?_
        rintro e w' ⟨rfl, rfl⟩
        rw [HI.out]
        have c15 := F2.out.c15
        have c1 := F2.out.c1
        have c6 := F2.out.c6
        have e1 := fun w => eqlNN w
        go_wp2_with fail
        go_ret
        exact ⟨rfl, K2.out.below (Nat.le_refl _) (by simp)⟩
end fnObjectFieldKindTableExact
end Go.Proofs.YtepipmjcfnncdaaFmt
