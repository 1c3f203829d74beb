/- The contract of n008_142's zzSpecEquals at a chain that reads as what is wanted. -/
import Derived.Test.YtgdipdbmllkckaaGreatFmtP2
namespace Go.Proofs.YtgdipdbmllkckaaGreatFmt
attribute [local go_sem ↓] Go.wp_at_zero Go.wp_at_succ
open Go.ChangeShapes Go.WideShapes Go.ChangeAt Go.RowKit

theorem Pl.out_succ (P : Pl) (k : Nat) : P.out (k + 1) = .pointer (some ⟨P.b k, P.o k, none⟩) := by unfold Pl.out; rw [if_neg (by omega)]; rfl
theorem Pl.out_zero (P : Pl) : P.out 0 = .pointer none := rfl

set_option maxRecDepth 100000 in
set_option maxHeartbeats 8000000 in
theorem zzSpecEquals_same (w : World) (base n : Nat) (P : Pl) (v : Nat × Nat → Value) (l : Nat × Nat → List FE) (hC : Chn w n P) (hF : ChF w base n P v l) (hll : ∀ x, P.In n x → (l x).length ≤ 1048577) (a : Option Addr) (cap : Nat) (ws : List SE) (h : RdS w a n cap ws) (hs : Sn P l n ws) (hn : n ≤ 1048576) (so : Option Addr) (hso : P.out n = .pointer so) :
    Calls Tryz.prog 21 #[.pointer so, .slice a n cap] w (Bl true w) := by
  have hle := h.le
  have htop := h.top
  have hwl := h.len
  unfold maxLen at htop
  have H := Lib.hid h; clear h
  have HC := Lib.hid hC; clear hC
  have HF := Lib.hid hF; clear hF
  have HLL := Lib.hid hll; clear hll
  have HS := Lib.hid hs; clear hs
  have HWL := Lib.hid hwl; clear hwl
  go_enter Tryz.func21, Tryz.ntmps21
  go_wp2_with fail
  go_loopw [5, 6] (fun c i wr => ∃ k : Nat, k ≤ n ∧ i = .int .i64 ((k : Int) - 1) ∧ c = P.out k ∧ Kept [] w wr) (fun _ i _ => (intOf i + 1).toNat)
  case atStart => exact ⟨n, Nat.le_refl _, by go_num, hso.symm, Kept.refl _ _⟩
  case round =>
    obtain ⟨k, hk, rfl, rfl, hb⟩ := hrel
    have HB := Lib.hid hb; clear hb
    cases k with
    | zero =>
      rw [show ((0 : Nat) : Int) - 1 = -1 by omega, P.out_zero]
      go_wp2_with fail
      go_ret
      exact ⟨rfl, HB.out⟩
    | succ K =>
      rw [show ((K + 1 : Nat) : Int) - 1 = (K : Int) by omega, P.out_succ]
      have hKn : K < n := by omega
      obtain ⟨b, o, s, a1, l1, c1, a2, l2, c2, hsk, rfl, hbl, q1, q2, h1, h2⟩ := (H.out.kept0 HB.out).sp K hKn
      obtain ⟨sn1, sn2, sn3⟩ := HS.out K s hKn hsk
      have ch := HC.out.kept HB.out
      have cf := HF.out.kept HB.out
      obtain ⟨va, vn, vc, hv⟩ := (cf.fod (K, 0) ⟨hKn, Nat.zero_le _⟩).isSlice
      obtain ⟨po, hpo⟩ := P.out_ptr K
      have a0 := cf.c0 K hKn
      rw [hv] at a0
      have a1' := ch.c1 K hKn
      have a2' := ch.c2 K hKn
      have a3' := ch.c3 K hKn
      rw [hpo] at a3'
      have a6' := ch.c6 K hKn
      have hl2 := h2.len
      have hPm : P.m K = l2 := by rw [sn1, hl2]
      rw [hPm] at a2'
      have hca := ch.ca K hKn
      rw [hPm] at hca
      have hml := ch.ml K hKn
      rw [hPm] at hml
      obtain ⟨ml1, ml2, ml3⟩ := hml
      unfold maxLen at ml2
      have HFK := Lib.hid (hv ▸ cf.fod (K, 0) ⟨hKn, Nat.zero_le _⟩)
      have H1 := Lib.hid h1; clear h1
      have H2 := Lib.hid h2; clear h2
      have SN2 := Lib.hid sn2; clear sn2
      have SN3 := Lib.hid sn3; clear sn3
      have HPM := Lib.hid hPm; clear hPm
      have HCA := Lib.hid hca; clear hca
      have HL2 := Lib.hid hl2; clear hl2
      have HPO := Lib.hid hpo; clear hpo
      obtain ⟨wo, rfl⟩ : ∃ wo : World, wo = wr := ⟨_, rfl⟩
      have C0 := Lib.hid a0
      have C1 := Lib.hid q1
      have kr := Kept.refl [] wo
      have i1 : (0 : Int) ≤ (K : Int) := by omega
      have i2 : (K : Int) < (n : Int) := by omega
      clear ch cf hv sn1 hsk
      go_wp2_with fail
      go_region_held3 (fun w' => w'.cell? ⟨P.b K, P.o K, none⟩ = some (.slice va vn vc) ∧ w'.cell? ⟨b, o + K * 2, none⟩ = some (.slice a1 l1 c1) ∧ Kept [] wo w')
        ((try go_split_ands; refine (fun h : Kept [] wo _ => ⟨h.cell C0.out (by simp), h.cell C1.out (by simp), h⟩) ?_; first | assumption | exact Kept.trans (by assumption) k2 | exact Kept.trans (Kept.drew (by assumption)) k2 | exact Kept.drew (by assumption)))
        (first
        | (go_at_call 18; try go_split_ands; refine (zzToEls_any _ base _ (l (K, 0)) (HFK.out.kept (S := []) (by first | assumption | exact Kept.drew (by assumption)) (by simp)) (HF.out.kd (K, 0) ⟨hKn, Nat.zero_le _⟩) (HLL.out (K, 0) ⟨hKn, Nat.zero_le _⟩)).mono ?_; rintro e w2 ⟨⟨ta, tn, tc⟩, rfl, ht2, k2⟩)
        | (go_at_call 17; try go_split_ands; refine (zzElsEqual_same _ _ _ _ _ _ _ s.f (by rw [← SN2.out]; exact ht2.rdz) (H1.out.kept0 (by assumption))).mono ?_; rintro e wq ⟨rfl, k2⟩))
      all_goals
        try go_split_ands
        have kA : Kept [] wo wq := by assumption
        have KA := Lib.hid kA
        have a1q := kA.cell a1' (by simp)
        have a2q := kA.cell a2' (by simp)
        have a3q := kA.cell a3' (by simp)
        have a6q := kA.cell a6' (by simp)
        have q2q := kA.cell q2 (by simp)
        have Q2 := Lib.hid q2
        have A2 := Lib.hid a2'
        have A3 := Lib.hid a3'
        clear a0 a1' a2' a3' a6' q1 q2 kA k2 kr
        go_wp2_with fail
        go_still_tail 11, (by kernel_rfl)
        go_wp2_with fail
        clear a1q a2q a3q a6q q2q
        go_loopw [7] (fun i wr => ∃ j : Nat, j ≤ l2 ∧ i = .int .i64 j ∧ Kept [] wo wr) (fun i _ => l2 - (intOf i).toNat)
        case atStart => exact ⟨0, Nat.zero_le _, rfl, KA.out.drew⟩
        case round =>
          obtain ⟨j, hj, rfl, hb⟩ := hrel
          have KQ := Lib.hid hb; clear hb
          have a2 := KQ.out.cell A2.out (by simp)
          have a3 := KQ.out.cell A3.out (by simp)
          by_cases hjl : j < l2
          · rw [HCA.out (by omega)] at a2
            obtain ⟨b3, o3, r, ra, rl, rc, hr, rfl, hb3, d0, hrz⟩ := (H2.out.kept0 KQ.out).row j hjl
            have hcj := SN3.out j r hr
            have cf := HF.out.kept (HB.out.trans KQ.out)
            have hin : P.In n (K, j + 1) := ⟨hKn, by rw [HPM.out]; exact hjl⟩
            obtain ⟨ua, un, uc, hu⟩ := (cf.fod (K, j + 1) hin).isSlice
            have e1 := cf.cj K j hKn (by rw [HPM.out]; exact hjl)
            rw [hu] at e1
            have q2 := KQ.out.cell Q2.out (by simp)
            have HFJ := Lib.hid (hu ▸ cf.fod (K, j + 1) hin)
            have HRZ := Lib.hid hrz; clear hrz
            have HCJ := Lib.hid hcj; clear hcj
            have HIN := Lib.hid hin; clear hin
            obtain ⟨wz, rfl⟩ : ∃ wz : World, wz = wr := ⟨_, rfl⟩
            have E1 := Lib.hid e1
            have D0 := Lib.hid d0
            have AA2 := Lib.hid a2
            have QQ2 := Lib.hid q2
            have kr := Kept.refl [] wz
            have j1 : (0 : Int) ≤ (j : Int) := by omega
            have j2 : (j : Int) < (l2 : Int) := by omega
            clear cf hu hr a3
            go_wp2_with fail
            go_region_held3 (fun w' => w'.cell? ⟨P.b K, P.o K + 2, none⟩ = some (.slice (some ⟨P.cb K, 0, none⟩) l2 (P.cc K)) ∧ w'.cell? ⟨P.cb K, j * 2 + 1, none⟩ = some (.slice ua un uc) ∧ w'.cell? ⟨b, o + K * 2 + 1, none⟩ = some (.slice (some ⟨b3, o3, none⟩) l2 c2) ∧ w'.cell? ⟨b3, o3 + j, none⟩ = some (.slice ra rl rc) ∧ Kept [] wz w')
              ((try go_split_ands; refine (fun h : Kept [] wz _ => ⟨h.cell AA2.out (by simp), h.cell E1.out (by simp), h.cell QQ2.out (by simp), h.cell D0.out (by simp), h⟩) ?_; first | assumption | exact Kept.trans (by assumption) k2 | exact Kept.trans (Kept.drew (by assumption)) k2 | exact Kept.drew (by assumption)))
              (first
              | (go_at_call 18; try go_split_ands; refine (zzToEls_any _ base _ (l (K, j + 1)) (HFJ.out.kept (S := []) (by first | assumption | exact Kept.drew (by assumption)) (by simp)) (HF.out.kd (K, j + 1) HIN.out) (HLL.out (K, j + 1) HIN.out)).mono ?_; rintro e w2 ⟨⟨ta, tn, tc⟩, rfl, ht2, k2⟩)
              | (go_at_call 17; try go_split_ands; refine (zzElsEqual_same _ _ _ _ _ _ _ r (by rw [← HCJ.out]; exact ht2.rdz) (HRZ.out.kept0 (by assumption))).mono ?_; rintro e wy ⟨rfl, k2⟩))
            all_goals
              try go_split_ands
              have kA : Kept [] wz wy := by assumption
              have KB := Lib.hid (KQ.out.trans kA)
              clear kA k2 kr e1 d0 a2 q2
              go_wp2_with fail
              exact ⟨⟨j + 1, by omega, by go_num, KB.out⟩, by simp [intOf]; omega⟩
          · obtain rfl : j = l2 := by omega
            have hpk := HPO.out
            go_wp2_with fail
            exact ⟨⟨K, by omega, by go_num, hpk.symm, HB.out.trans KQ.out⟩, by simp [intOf]⟩
end Go.Proofs.YtgdipdbmllkckaaGreatFmt
