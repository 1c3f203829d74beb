/- The contract of the pass's ForSpec over a chain of levels. -/
import Derived.Test.YtgdipdbmllkckaaGreatFmtSe
import Derived.Test.YtgdipdbmllkckaaGreatFmtVisN
namespace Go.Proofs.YtgdipdbmllkckaaGreatFmt
open Go.ChangeShapes Go.WideShapes Go.ChangeAt Go.RowKit

set_option maxRecDepth 100000 in
theorem meth_ForSpec (pb : Nat) (w : World) (h : IsPass w pb) : (method 391 88 (.pointer (some ⟨pb, 0, none⟩)) "ForSpec").run Tryz.prog w = .ok (71, .pointer (some ⟨pb, 0, none⟩)) w :=
  meth_base w pb h _ _ 390 (by kernel_rfl) base_field
set_option maxRecDepth 100000 in
theorem nilA_ForSpec (pb : Nat) (w : World) : (nilAhead 391 88 (.pointer (some ⟨pb, 0, none⟩)) "ForSpec").run Tryz.prog w = .ok (some false) w := by kernel_rfl

set_option maxRecDepth 100000 in
set_option maxHeartbeats 8000000 in
theorem forSpec_any (base n : Nat) (P : Pl) (v : Nat × Nat → Value) (l : Nat × Nat → List FE) (pb : Nat) (ctx : Value) (k : Nat) : k < n → ∀ w r, IsPass w pb → Chn w n P → ChF w base n P v l →
    Calls Tryz.prog 71 #[r, .iface 88 (.pointer (some ⟨pb, 0, none⟩)), .pointer (some ⟨P.b k, P.o k, none⟩), ctx] w fun e w' => e = .returned (.tuple #[]) ∧ Kept [] w w' := by
  have hn1 := nilA_Fodder pb
  have hn2 := nilA_Visit pb
  have hn3 := nilA_ForSpec pb
  induction k with
  | zero =>
    intro hk w r hpb h hF
    have a3 := h.c3 0 hk
    rw [show P.out 0 = .pointer none from rfl] at a3
    have H := Lib.hid h; clear h
    have HF := Lib.hid hF; clear hF
    have HPB := Lib.hid hpb; clear hpb
    go_enter Tryz.func71, Tryz.ntmps71
    have hm := meth_Fodder pb w.drew (HPB.out.kept (Kept.refl [] w).drew (by simp))
    go_wp2_with fail
    go_still_tail 9, (by kernel_rfl)
    go_wp2_with fail
    refine (passFodder _ base _ pb (P.b 0) (P.o 0) (HPB.out.kept (Kept.refl [] w).drew (by simp)) _ (v (0, 0)) (l (0, 0)) ((HF.out.fod (0, 0) ⟨hk, Nat.zero_le _⟩).kept (Kept.refl [] w).drew (by simp)) ((Kept.refl [] w).drew.cell (HF.out.c0 0 hk) (by simp))).mono ?_
    rintro e w1 ⟨rfl, k⟩
    have k' := ((Kept.refl [] w).drew).trans k
    have K_w1 := Lib.hid k'; clear k' k hm
    have hm := meth_Fodder pb w1.drew (HPB.out.kept K_w1.out.drew (by simp))
    go_wp2_with fail
    go_still_tail 9, (by kernel_rfl)
    go_wp2_with fail
    refine (passFodder _ base _ pb (P.b 0) (P.o 0 + 1) (HPB.out.kept K_w1.out.drew (by simp)) _ (.slice none 0 0) [] (fod_nil _ _) (K_w1.out.drew.cell (H.out.c1 0 hk) (by simp))).mono ?_
    rintro e w2 ⟨rfl, k⟩
    have k' := (K_w1.out.drew).trans k
    have K_w2 := Lib.hid k'; clear k' k hm
    have hm := meth_Fodder pb w2.drew (HPB.out.kept K_w2.out.drew (by simp))
    go_wp2_with fail
    go_still_tail 9, (by kernel_rfl)
    go_wp2_with fail
    refine (passFodder _ base _ pb (P.b 0) (P.o 0 + 6) (HPB.out.kept K_w2.out.drew (by simp)) _ (.slice none 0 0) [] (fod_nil _ _) (K_w2.out.drew.cell (H.out.c6 0 hk) (by simp))).mono ?_
    rintro e w3 ⟨rfl, k⟩
    have k' := (K_w2.out.drew).trans k
    have K_w3 := Lib.hid k'; clear k' k hm
    have hm := meth_Visit pb w3.drew (HPB.out.kept K_w3.out.drew (by simp))
    go_wp2_with fail
    go_still_tail 9, (by kernel_rfl)
    go_wp2_with fail
    refine (visit_LiteralNull _ base _ pb (P.b 0) (P.o 0 + 4) (P.xe 0) (HPB.out.kept K_w3.out.drew (by simp)) _ (.slice none 0 0) [] (fod_nil _ _) (K_w3.out.drew.cell (H.out.c4 0 hk) (by simp)) ((H.out.ne 0 hk).kept K_w3.out.drew (by simp)).1 ((H.out.ne 0 hk).kept K_w3.out.drew (by simp)).2).mono ?_
    rintro e w4 ⟨rfl, k⟩
    have k' := (K_w3.out.drew).trans k
    have K_w4 := Lib.hid k'; clear k' k hm
    have a2 := K_w4.out.cell (H.out.c2 0 hk) (by simp)
    have hcat := H.out.ca 0 hk
    have hml := H.out.ml 0 hk
    obtain ⟨M, hM⟩ : ∃ M, P.m 0 = M := ⟨_, rfl⟩
    rw [hM] at hcat hml a2
    have HM := Lib.hid hM; clear hM
    have HCAT := Lib.hid hcat; clear hcat
    obtain ⟨ml1, ml2, ml3⟩ := hml
    unfold maxLen at ml2
    go_wp2_with fail
    clear a2
    go_loopw [71] (fun i wr => ∃ j : Nat, j ≤ M ∧ i = .int .i64 j ∧ Kept [] w wr) (fun i _ => M - (intOf i).toNat)
    case atStart => exact ⟨0, Nat.zero_le _, rfl, K_w4.out⟩
    case round =>
      obtain ⟨j, hj, rfl, hq⟩ := hrel
      have HQ := Lib.hid hq; clear hq
      by_cases hlt : j < M
      · have a2 := HQ.out.cell (H.out.c2 0 hk) (by simp)
        rw [HM.out, HCAT.out (by omega)] at a2
        have i1 : (0 : Int) ≤ (j : Int) := by omega
        have i2 : (j : Int) < (M : Int) := by omega
        have hjm : j < P.m 0 := by rw [HM.out]; exact hlt
        have HJM := Lib.hid hjm; clear hjm
        have hm := meth_Fodder pb wr.drew (HPB.out.kept HQ.out.drew (by simp))
        go_wp2_with fail
        go_still_tail 9, (by kernel_rfl)
        go_wp2_with fail
        refine (passFodder _ base _ pb (P.cb 0) (j * 2 + 1) (HPB.out.kept HQ.out.drew (by simp)) _ (v (0, j + 1)) (l (0, j + 1)) ((HF.out.fod (0, j + 1) ⟨hk, HJM.out⟩).kept HQ.out.drew (by simp)) (HQ.out.drew.cell (HF.out.cj 0 j hk HJM.out) (by simp))).mono ?_
        rintro e w6 ⟨rfl, k⟩
        have k' := (HQ.out.drew).trans k
        have K6 := Lib.hid k'; clear k' k hm a2
        have hm := meth_Visit pb w6.drew (HPB.out.kept K6.out.drew (by simp))
        go_wp2_with fail
        go_still_tail 9, (by kernel_rfl)
        go_wp2_with fail
        refine (visit_LiteralNull _ base _ pb (P.cb 0) (j * 2) (P.xi 0 j) (HPB.out.kept K6.out.drew (by simp)) _ (.slice none 0 0) [] (fod_nil _ _) (K6.out.drew.cell (H.out.ce 0 j hk HJM.out) (by simp)) ((H.out.ni 0 j hk HJM.out).kept K6.out.drew (by simp)).1 ((H.out.ni 0 j hk HJM.out).kept K6.out.drew (by simp)).2).mono ?_
        rintro e w7 ⟨rfl, k⟩
        have k' := (K6.out.drew).trans k
        have K7 := Lib.hid k'; clear k' k hm
        go_wp2_with fail
        exact ⟨⟨j + 1, by omega, by go_num, K7.out⟩, by simp [intOf]; omega⟩
      · obtain rfl : j = M := by omega
        go_wp2_with fail
        go_end0
        exact ⟨rfl, HQ.out⟩
  | succ k ih =>
    intro hk w r hpb h hF
    have a3 := h.c3 (k + 1) hk
    have hpo1 : P.out (k + 1) = .pointer (some ⟨P.b k, P.o k, none⟩) := by unfold Pl.out; rw [if_neg (by omega)]; rfl
    rw [hpo1] at a3
    have hrec : ∀ w', Kept [] w w' → ∀ r, Calls Tryz.prog 71 #[r, .iface 88 (.pointer (some ⟨pb, 0, none⟩)), .pointer (some ⟨P.b k, P.o k, none⟩), ctx] w' fun e w'' => e = .returned (.tuple #[]) ∧ Kept [] w' w'' := fun w' q r => ih (by omega) w' r (hpb.kept q (by simp)) (h.kept q) (hF.kept q)
    have HREC := Lib.hid hrec; clear hrec ih hpo1
    have H := Lib.hid h; clear h
    have HF := Lib.hid hF; clear hF
    have HPB := Lib.hid hpb; clear hpb
    have hm := meth_ForSpec pb w.drew (HPB.out.kept (Kept.refl [] w).drew (by simp))
    go_enter Tryz.func71, Tryz.ntmps71
    go_wp2_with fail
    go_still_tail 10, (by kernel_rfl)
    go_wp2_with fail
    refine (HREC.out _ (Kept.refl [] w).drew _).mono ?_
    rintro e w0 ⟨rfl, k0⟩
    have K_w0 := Lib.hid ((Kept.refl [] w).drew.trans k0)
    clear k0 a3 hm
    have hm := meth_Fodder pb w0.drew (HPB.out.kept K_w0.out.drew (by simp))
    go_wp2_with fail
    go_still_tail 9, (by kernel_rfl)
    go_wp2_with fail
    refine (passFodder _ base _ pb (P.b (k + 1)) (P.o (k + 1)) (HPB.out.kept K_w0.out.drew (by simp)) _ (v ((k + 1), 0)) (l ((k + 1), 0)) ((HF.out.fod ((k + 1), 0) ⟨hk, Nat.zero_le _⟩).kept K_w0.out.drew (by simp)) (K_w0.out.drew.cell (HF.out.c0 (k + 1) hk) (by simp))).mono ?_
    rintro e w1 ⟨rfl, k⟩
    have k' := (K_w0.out.drew).trans k
    have K_w1 := Lib.hid k'; clear k' k hm
    have hm := meth_Fodder pb w1.drew (HPB.out.kept K_w1.out.drew (by simp))
    go_wp2_with fail
    go_still_tail 9, (by kernel_rfl)
    go_wp2_with fail
    refine (passFodder _ base _ pb (P.b (k + 1)) (P.o (k + 1) + 1) (HPB.out.kept K_w1.out.drew (by simp)) _ (.slice none 0 0) [] (fod_nil _ _) (K_w1.out.drew.cell (H.out.c1 (k + 1) hk) (by simp))).mono ?_
    rintro e w2 ⟨rfl, k⟩
    have k' := (K_w1.out.drew).trans k
    have K_w2 := Lib.hid k'; clear k' k hm
    have hm := meth_Fodder pb w2.drew (HPB.out.kept K_w2.out.drew (by simp))
    go_wp2_with fail
    go_still_tail 9, (by kernel_rfl)
    go_wp2_with fail
    refine (passFodder _ base _ pb (P.b (k + 1)) (P.o (k + 1) + 6) (HPB.out.kept K_w2.out.drew (by simp)) _ (.slice none 0 0) [] (fod_nil _ _) (K_w2.out.drew.cell (H.out.c6 (k + 1) hk) (by simp))).mono ?_
    rintro e w3 ⟨rfl, k⟩
    have k' := (K_w2.out.drew).trans k
    have K_w3 := Lib.hid k'; clear k' k hm
    have hm := meth_Visit pb w3.drew (HPB.out.kept K_w3.out.drew (by simp))
    go_wp2_with fail
    go_still_tail 9, (by kernel_rfl)
    go_wp2_with fail
    refine (visit_LiteralNull _ base _ pb (P.b (k + 1)) (P.o (k + 1) + 4) (P.xe (k + 1)) (HPB.out.kept K_w3.out.drew (by simp)) _ (.slice none 0 0) [] (fod_nil _ _) (K_w3.out.drew.cell (H.out.c4 (k + 1) hk) (by simp)) ((H.out.ne (k + 1) hk).kept K_w3.out.drew (by simp)).1 ((H.out.ne (k + 1) hk).kept K_w3.out.drew (by simp)).2).mono ?_
    rintro e w4 ⟨rfl, k⟩
    have k' := (K_w3.out.drew).trans k
    have K_w4 := Lib.hid k'; clear k' k hm
    have a2 := K_w4.out.cell (H.out.c2 (k + 1) hk) (by simp)
    have hcat := H.out.ca (k + 1) hk
    have hml := H.out.ml (k + 1) hk
    obtain ⟨M, hM⟩ : ∃ M, P.m (k + 1) = M := ⟨_, rfl⟩
    rw [hM] at hcat hml a2
    have HM := Lib.hid hM; clear hM
    have HCAT := Lib.hid hcat; clear hcat
    obtain ⟨ml1, ml2, ml3⟩ := hml
    unfold maxLen at ml2
    go_wp2_with fail
    clear a2
    go_loopw [71] (fun i wr => ∃ j : Nat, j ≤ M ∧ i = .int .i64 j ∧ Kept [] w wr) (fun i _ => M - (intOf i).toNat)
    case atStart => exact ⟨0, Nat.zero_le _, rfl, K_w4.out⟩
    case round =>
      obtain ⟨j, hj, rfl, hq⟩ := hrel
      have HQ := Lib.hid hq; clear hq
      by_cases hlt : j < M
      · have a2 := HQ.out.cell (H.out.c2 (k + 1) hk) (by simp)
        rw [HM.out, HCAT.out (by omega)] at a2
        have i1 : (0 : Int) ≤ (j : Int) := by omega
        have i2 : (j : Int) < (M : Int) := by omega
        have hjm : j < P.m (k + 1) := by rw [HM.out]; exact hlt
        have HJM := Lib.hid hjm; clear hjm
        have hm := meth_Fodder pb wr.drew (HPB.out.kept HQ.out.drew (by simp))
        go_wp2_with fail
        go_still_tail 9, (by kernel_rfl)
        go_wp2_with fail
        refine (passFodder _ base _ pb (P.cb (k + 1)) (j * 2 + 1) (HPB.out.kept HQ.out.drew (by simp)) _ (v ((k + 1), j + 1)) (l ((k + 1), j + 1)) ((HF.out.fod ((k + 1), j + 1) ⟨hk, HJM.out⟩).kept HQ.out.drew (by simp)) (HQ.out.drew.cell (HF.out.cj (k + 1) j hk HJM.out) (by simp))).mono ?_
        rintro e w6 ⟨rfl, k⟩
        have k' := (HQ.out.drew).trans k
        have K6 := Lib.hid k'; clear k' k hm a2
        have hm := meth_Visit pb w6.drew (HPB.out.kept K6.out.drew (by simp))
        go_wp2_with fail
        go_still_tail 9, (by kernel_rfl)
        go_wp2_with fail
        refine (visit_LiteralNull _ base _ pb (P.cb (k + 1)) (j * 2) (P.xi (k + 1) j) (HPB.out.kept K6.out.drew (by simp)) _ (.slice none 0 0) [] (fod_nil _ _) (K6.out.drew.cell (H.out.ce (k + 1) j hk HJM.out) (by simp)) ((H.out.ni (k + 1) j hk HJM.out).kept K6.out.drew (by simp)).1 ((H.out.ni (k + 1) j hk HJM.out).kept K6.out.drew (by simp)).2).mono ?_
        rintro e w7 ⟨rfl, k⟩
        have k' := (K6.out.drew).trans k
        have K7 := Lib.hid k'; clear k' k hm
        go_wp2_with fail
        exact ⟨⟨j + 1, by omega, by go_num, K7.out⟩, by simp [intOf]; omega⟩
      · obtain rfl : j = M := by omega
        go_wp2_with fail
        go_end0
        exact ⟨rfl, HQ.out⟩
end Go.Proofs.YtgdipdbmllkckaaGreatFmt
