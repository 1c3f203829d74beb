/- The contracts of n008_142's zzSpecAllClean and zzSpecNoNewline. -/
import Derived.Test.YtgdipdbmllkckaaFmtAb
namespace Go.Proofs.YtgdipdbmllkckaaFmt
open Go.ChangeShapes Go.WideShapes Go.ChangeAt Go.RowKit

theorem out_meas (P : Pl) (n : Nat) (h : ∀ i j, i < n → j < n → P.out (i + 1) = P.out (j + 1) → i = j) : ∃ M : Value → Nat, ∀ k, k ≤ n → M (P.out k) = k := by
  classical
  refine ⟨fun c => if h : ∃ k, k ≤ n ∧ c = P.out k then h.choose else 0, fun k hk => ?_⟩
  have hex : ∃ k', k' ≤ n ∧ P.out k = P.out k' := ⟨k, hk, rfl⟩
  show (if h : ∃ k', k' ≤ n ∧ P.out k = P.out k' then h.choose else 0) = k
  rw [dif_pos hex]
  obtain ⟨h1, h2⟩ := hex.choose_spec
  generalize hex.choose = m at h1 h2
  cases m with
  | zero =>
    cases k with
    | zero => rfl
    | succ k => rw [P.out_zero, P.out_succ] at h2; simp at h2
  | succ m =>
    cases k with
    | zero => rw [P.out_zero, P.out_succ] at h2; simp at h2
    | succ k => rw [h k m (by omega) (by omega) h2]
theorem ACN.inj {w : World} {base nb lb n : Nat} {P : Pl} {Q : Nat → Prop} {v : Nat × Nat → Value} {l : Nat × Nat → List FE} (h : ACN w base nb lb n P Q v l) : ∀ i j, i < n → j < n → P.out (i + 1) = P.out (j + 1) → i = j := by
  intro i j hi hj e
  rw [P.out_succ, P.out_succ] at e
  by_cases hij : i = j
  · exact hij
  · have hx : P.In n (i, 0) := ⟨hi, Nat.zero_le _⟩
    have hy : P.In n (j, 0) := ⟨hj, Nat.zero_le _⟩
    have := h.fam.inj (i, 0) (j, 0) (Or.inl hx) (Or.inl hy) (by simp; exact hij)
    rw [acp_in hx, acp_in hy, P.pos0, P.pos0] at this
    exfalso
    apply this
    simp at e
    rw [e.1, e.2]

set_option maxRecDepth 100000 in
set_option maxHeartbeats 8000000 in
theorem zzSpecAllClean_any (w : World) (base n : Nat) (P : Pl) (v : Nat × Nat → Value) (l : Nat × Nat → List FE) (hC : Chn w n P) (hF : ChF w base n P v l) (hll : ∀ x, P.In n x → (l x).length ≤ 1048577) (so : Option Addr) (hso : P.out n = .pointer so) (hinj : ∀ i j, i < n → j < n → P.out (i + 1) = P.out (j + 1) → i = j) :
    Calls Tryf.prog 15 #[.pointer so] w fun e w' => ∃ b : Bool, e = .returned (.bool b) ∧ Kept [] w w' ∧ ((∀ x, P.In n x → endsC (codes (l x)) = true) → b = true) := by
  obtain ⟨MF, hMF⟩ := out_meas P n hinj
  have HMF := Lib.hid hMF; clear hMF
  have HC := Lib.hid hC; clear hC
  have HF := Lib.hid hF; clear hF
  have HLL := Lib.hid hll; clear hll
  go_enter Tryf.func15, Tryf.ntmps15
  go_wp2_with fail
  go_loopw [3] (fun c wr => ∃ k : Nat, k ≤ n ∧ c = P.out k ∧ Kept [] w wr) (fun c _ => MF c)
  case atStart => exact ⟨n, Nat.le_refl _, hso.symm, Kept.refl _ _⟩
  case round =>
    obtain ⟨k, hk, rfl, hb⟩ := hrel
    have HB := Lib.hid hb; clear hb
    cases k with
    | zero =>
      rw [P.out_zero]
      go_wp2_with fail
      go_ret
      exact ⟨true, rfl, HB.out, fun _ => rfl⟩
    | succ K =>
      have hKn : K < n := by omega
      have hm1 := HMF.out (K + 1) hk
      have hm0 := HMF.out K (by omega)
      have HM1 := Lib.hid hm1; clear hm1
      have HM0 := Lib.hid hm0; clear hm0
      rw [P.out_succ] at HM1 ⊢
      have ch := HC.out.kept HB.out
      have cf := HF.out.kept HB.out
      obtain ⟨va, vn, vc, hv⟩ := (cf.fod (K, 0) ⟨hKn, Nat.zero_le _⟩).isSlice
      have a0 := cf.c0 K hKn
      rw [hv] at a0
      have HFK := Lib.hid (hv ▸ cf.fod (K, 0) ⟨hKn, Nat.zero_le _⟩)
      obtain ⟨wo, rfl⟩ : ∃ wo : World, wo = wr := ⟨_, rfl⟩
      have a2' := ch.c2 K hKn
      have a3' := ch.c3 K hKn
      obtain ⟨po, hpo⟩ := P.out_ptr K
      rw [hpo] at a3' HM0
      have hca := ch.ca K hKn
      have hml := ch.ml K hKn
      obtain ⟨M, hM⟩ : ∃ M, P.m K = M := ⟨_, rfl⟩
      rw [hM] at a2' hca hml
      obtain ⟨ml1, ml2, ml3⟩ := hml
      unfold maxLen at ml2
      have HPM := Lib.hid hM; clear hM
      have HCA := Lib.hid hca; clear hca
      have HPO := Lib.hid hpo; clear hpo
      have A2 := Lib.hid a2'
      have A3 := Lib.hid a3'
      clear ch cf hv a2' a3'
      go_wp2_with fail
      refine (zzToEls_any _ base _ (l (K, 0)) HFK.out (HF.out.kd (K, 0) ⟨hKn, Nat.zero_le _⟩) (HLL.out (K, 0) ⟨hKn, Nat.zero_le _⟩)).mono ?_
      rintro e w3 ⟨⟨ta, tn, tc⟩, rfl, hsn, k3⟩
      have HSN := Lib.hid hsn; clear hsn
      dsimp only [Trip.val]
      unfold Trip.val at HSN
      go_wp2_with fail
      refine (zzEndsClean_any _ _ _ _ (codes (l (K, 0))) HSN.out.rdz).mono ?_
      rintro e w4 ⟨rfl, rfl⟩
      have K3 := Lib.hid (k3); clear k3 a0
      obtain ⟨B, hB⟩ : ∃ B, endsC (codes (l (K, 0))) = B := ⟨_, rfl⟩
      rw [hB]
      have HBV := Lib.hid hB; clear hB
      cases B
      · go_wp2_with fail
        go_ret
        exact ⟨false, rfl, HB.out.trans K3.out, fun h => by have := h (K, 0) ⟨hKn, Nat.zero_le _⟩; rw [HBV.out] at this; cases this⟩
      go_wp2_with fail
      go_loopw [4] (fun i wr => ∃ j : Nat, j ≤ M ∧ i = .int .i64 j ∧ Kept [] wo wr) (fun i _ => M - (intOf i).toNat)
      case atStart => exact ⟨0, Nat.zero_le _, rfl, K3.out⟩
      case round =>
        obtain ⟨j, hj, rfl, hb⟩ := hrel
        have KQ := Lib.hid hb; clear hb
        have a2 := KQ.out.cell A2.out (by simp)
        have a3 := KQ.out.cell A3.out (by simp)
        by_cases hjl : j < M
        · rw [HCA.out (by omega)] at a2
          have cf := HF.out.kept (HB.out.trans KQ.out)
          have hin : P.In n (K, j + 1) := ⟨hKn, by rw [HPM.out]; exact hjl⟩
          obtain ⟨ua, un, uc, hu⟩ := (cf.fod (K, j + 1) hin).isSlice
          have e1 := cf.cj K j hKn (by rw [HPM.out]; exact hjl)
          rw [hu] at e1
          have HFJ := Lib.hid (hu ▸ cf.fod (K, j + 1) hin)
          have HIN := Lib.hid hin; clear hin
          have j1 : (0 : Int) ≤ (j : Int) := by omega
          have j2 : (j : Int) < (M : Int) := by omega
          clear cf hu a3
          go_wp2_with fail
          refine (zzToEls_any _ base _ (l (K, j + 1)) HFJ.out (HF.out.kd (K, j + 1) HIN.out) (HLL.out (K, j + 1) HIN.out)).mono ?_
          rintro e w5 ⟨⟨sa, sn, sc⟩, rfl, hsn, k5⟩
          have HSJ := Lib.hid hsn; clear hsn
          dsimp only [Trip.val]
          unfold Trip.val at HSJ
          go_wp2_with fail
          refine (zzEndsClean_any _ _ _ _ (codes (l (K, j + 1))) HSJ.out.rdz).mono ?_
          rintro e w6 ⟨rfl, rfl⟩
          have K5 := Lib.hid (KQ.out.trans (k5)); clear k5 a2 e1
          obtain ⟨B, hB⟩ : ∃ B, endsC (codes (l (K, j + 1))) = B := ⟨_, rfl⟩
          rw [hB]
          have HBJ := Lib.hid hB; clear hB
          cases B
          · go_wp2_with fail
            go_ret
            exact ⟨false, rfl, HB.out.trans K5.out, fun h => by have := h (K, j + 1) HIN.out; rw [HBJ.out] at this; cases this⟩
          go_wp2_with fail
          exact ⟨⟨j + 1, by omega, by go_num, K5.out⟩, by simp [intOf]; omega⟩
        · obtain rfl : j = M := by omega
          have hpk := HPO.out
          go_wp2_with fail
          exact ⟨⟨K, by omega, hpk.symm, HB.out.trans KQ.out⟩, by have h1 := HM1.out; have h0 := HM0.out; simp [h1, h0]⟩

set_option maxRecDepth 100000 in
set_option maxHeartbeats 8000000 in
theorem zzSpecNoNewline_any (w : World) (base n : Nat) (P : Pl) (v : Nat × Nat → Value) (l : Nat × Nat → List FE) (hC : Chn w n P) (hF : ChF w base n P v l) (hll : ∀ x, P.In n x → (l x).length ≤ 1048577) (so : Option Addr) (hso : P.out n = .pointer so) (hinj : ∀ i j, i < n → j < n → P.out (i + 1) = P.out (j + 1) → i = j) :
    Calls Tryf.prog 17 #[.pointer so] w fun e w' => ∃ b : Bool, e = .returned (.bool b) ∧ Kept [] w w' ∧ ((∀ x, P.In n x → hasNL (codes (l x)) = false) → b = true) := by
  obtain ⟨MF, hMF⟩ := out_meas P n hinj
  have HMF := Lib.hid hMF; clear hMF
  have HC := Lib.hid hC; clear hC
  have HF := Lib.hid hF; clear hF
  have HLL := Lib.hid hll; clear hll
  go_enter Tryf.func17, Tryf.ntmps17
  go_wp2_with fail
  go_loopw [3] (fun c wr => ∃ k : Nat, k ≤ n ∧ c = P.out k ∧ Kept [] w wr) (fun c _ => MF c)
  case atStart => exact ⟨n, Nat.le_refl _, hso.symm, Kept.refl _ _⟩
  case round =>
    obtain ⟨k, hk, rfl, hb⟩ := hrel
    have HB := Lib.hid hb; clear hb
    cases k with
    | zero =>
      rw [P.out_zero]
      go_wp2_with fail
      go_ret
      exact ⟨true, rfl, HB.out, fun _ => rfl⟩
    | succ K =>
      have hKn : K < n := by omega
      have hm1 := HMF.out (K + 1) hk
      have hm0 := HMF.out K (by omega)
      have HM1 := Lib.hid hm1; clear hm1
      have HM0 := Lib.hid hm0; clear hm0
      rw [P.out_succ] at HM1 ⊢
      have ch := HC.out.kept HB.out
      have cf := HF.out.kept HB.out
      obtain ⟨va, vn, vc, hv⟩ := (cf.fod (K, 0) ⟨hKn, Nat.zero_le _⟩).isSlice
      have a0 := cf.c0 K hKn
      rw [hv] at a0
      have HFK := Lib.hid (hv ▸ cf.fod (K, 0) ⟨hKn, Nat.zero_le _⟩)
      obtain ⟨wo, rfl⟩ : ∃ wo : World, wo = wr := ⟨_, rfl⟩
      have a2' := ch.c2 K hKn
      have a3' := ch.c3 K hKn
      obtain ⟨po, hpo⟩ := P.out_ptr K
      rw [hpo] at a3' HM0
      have hca := ch.ca K hKn
      have hml := ch.ml K hKn
      obtain ⟨M, hM⟩ : ∃ M, P.m K = M := ⟨_, rfl⟩
      rw [hM] at a2' hca hml
      obtain ⟨ml1, ml2, ml3⟩ := hml
      unfold maxLen at ml2
      have HPM := Lib.hid hM; clear hM
      have HCA := Lib.hid hca; clear hca
      have HPO := Lib.hid hpo; clear hpo
      have A2 := Lib.hid a2'
      have A3 := Lib.hid a3'
      clear ch cf hv a2' a3'
      go_wp2_with fail
      refine (zzToEls_any _ base _ (l (K, 0)) HFK.out (HF.out.kd (K, 0) ⟨hKn, Nat.zero_le _⟩) (HLL.out (K, 0) ⟨hKn, Nat.zero_le _⟩)).mono ?_
      rintro e w3 ⟨⟨ta, tn, tc⟩, rfl, hsn, k3⟩
      have HSN := Lib.hid hsn; clear hsn
      dsimp only [Trip.val]
      unfold Trip.val at HSN
      go_wp2_with fail
      refine (zzHasNewline_any _ _ _ _ (codes (l (K, 0))) HSN.out.rdz).mono ?_
      rintro e w4 ⟨rfl, kx⟩
      have K3 := Lib.hid ((k3).trans kx); clear k3 kx a0
      obtain ⟨B, hB⟩ : ∃ B, hasNL (codes (l (K, 0))) = B := ⟨_, rfl⟩
      rw [hB]
      have HBV := Lib.hid hB; clear hB
      cases B
      rotate_left
      · go_wp2_with fail
        go_ret
        exact ⟨false, rfl, HB.out.trans K3.out, fun h => by have := h (K, 0) ⟨hKn, Nat.zero_le _⟩; rw [HBV.out] at this; cases this⟩
      go_wp2_with fail
      go_loopw [4] (fun i wr => ∃ j : Nat, j ≤ M ∧ i = .int .i64 j ∧ Kept [] wo wr) (fun i _ => M - (intOf i).toNat)
      case atStart => exact ⟨0, Nat.zero_le _, rfl, K3.out⟩
      case round =>
        obtain ⟨j, hj, rfl, hb⟩ := hrel
        have KQ := Lib.hid hb; clear hb
        have a2 := KQ.out.cell A2.out (by simp)
        have a3 := KQ.out.cell A3.out (by simp)
        by_cases hjl : j < M
        · rw [HCA.out (by omega)] at a2
          have cf := HF.out.kept (HB.out.trans KQ.out)
          have hin : P.In n (K, j + 1) := ⟨hKn, by rw [HPM.out]; exact hjl⟩
          obtain ⟨ua, un, uc, hu⟩ := (cf.fod (K, j + 1) hin).isSlice
          have e1 := cf.cj K j hKn (by rw [HPM.out]; exact hjl)
          rw [hu] at e1
          have HFJ := Lib.hid (hu ▸ cf.fod (K, j + 1) hin)
          have HIN := Lib.hid hin; clear hin
          have j1 : (0 : Int) ≤ (j : Int) := by omega
          have j2 : (j : Int) < (M : Int) := by omega
          clear cf hu a3
          go_wp2_with fail
          refine (zzToEls_any _ base _ (l (K, j + 1)) HFJ.out (HF.out.kd (K, j + 1) HIN.out) (HLL.out (K, j + 1) HIN.out)).mono ?_
          rintro e w5 ⟨⟨sa, sn, sc⟩, rfl, hsn, k5⟩
          have HSJ := Lib.hid hsn; clear hsn
          dsimp only [Trip.val]
          unfold Trip.val at HSJ
          go_wp2_with fail
          refine (zzHasNewline_any _ _ _ _ (codes (l (K, j + 1))) HSJ.out.rdz).mono ?_
          rintro e w6 ⟨rfl, kx⟩
          have K5 := Lib.hid (KQ.out.trans ((k5).trans kx)); clear k5 kx a2 e1
          obtain ⟨B, hB⟩ : ∃ B, hasNL (codes (l (K, j + 1))) = B := ⟨_, rfl⟩
          rw [hB]
          have HBJ := Lib.hid hB; clear hB
          cases B
          rotate_left
          · go_wp2_with fail
            go_ret
            exact ⟨false, rfl, HB.out.trans K5.out, fun h => by have := h (K, j + 1) HIN.out; rw [HBJ.out] at this; cases this⟩
          go_wp2_with fail
          exact ⟨⟨j + 1, by omega, by go_num, K5.out⟩, by simp [intOf]; omega⟩
        · obtain rfl : j = M := by omega
          have hpk := HPO.out
          go_wp2_with fail
          exact ⟨⟨K, by omega, hpk.symm, HB.out.trans KQ.out⟩, by have h1 := HM1.out; have h0 := HM0.out; simp [h1, h0]⟩

theorem ARd.asks {w : World} {base nb lb : Nat} {zb : List ZE} {ws : List SE} {zc : List ZE} (h : ARd w base nb lb zb ws zc) :
    (Calls Tryf.prog 15 #[.pointer (some ⟨nb, 2, none⟩)] w fun e w' => ∃ b : Bool, e = .returned (.bool b) ∧ Kept [] w w' ∧ ((∀ s ∈ ws, endsC s.f = true ∧ ∀ d ∈ s.ifs, endsC d = true) → b = true)) ∧
    (Calls Tryf.prog 17 #[.pointer (some ⟨nb, 2, none⟩)] w fun e w' => ∃ b : Bool, e = .returned (.bool b) ∧ Kept [] w w' ∧ (specsNL ws = false → b = true)) := by
  obtain ⟨P, Q, v, l, h1, h2, h3, h4, h5, h6, h7⟩ := h
  have hp := h1.pos
  have ho : P.out ws.length = .pointer (some ⟨nb, 2, none⟩) := by unfold Pl.out; rw [if_neg (by omega), h1.b, h1.o]
  have cf := h1.chf (fun x hx => kinds_of_good (h5 x hx).1)
  have all : ∀ (p : List ZE → Bool) (b : Bool), (∀ s ∈ ws, p s.f = b ∧ ∀ d ∈ s.ifs, p d = b) → ∀ x, P.In ws.length x → p (codes (l x)) = b := by
    intro p b hpb x hx
    obtain ⟨i, j⟩ := x
    obtain ⟨x1, x2⟩ := hx
    dsimp only at x1 x2
    obtain ⟨e1, e2, e3⟩ := h2 i _ x1 (List.getElem?_eq_getElem x1)
    obtain ⟨s1, s3⟩ := hpb _ (List.getElem_mem x1)
    cases j with
    | zero => rw [e2]; exact s1
    | succ j =>
      rw [e1] at x2
      have hj : j < ws[i].ifs.length := by omega
      rw [e3 j _ (List.getElem?_eq_getElem hj)]; exact s3 _ (List.getElem_mem hj)
  constructor
  · refine (zzSpecAllClean_any w base ws.length P v l h1.ch cf (fun x hx => (h5 x (Or.inl hx)).2) _ ho h1.inj).mono ?_
    rintro e w' ⟨b, rfl, k, hb⟩
    exact ⟨b, rfl, k, fun h => hb (all endsC true h)⟩
  · refine (zzSpecNoNewline_any w base ws.length P v l h1.ch cf (fun x hx => (h5 x (Or.inl hx)).2) _ ho h1.inj).mono ?_
    rintro e w' ⟨b, rfl, k, hb⟩
    refine ⟨b, rfl, k, fun h => hb (all hasNL false (fun s hs => ?_))⟩
    unfold specsNL at h
    rw [List.any_eq_false] at h
    have := h s hs
    unfold spNL at this
    rw [Bool.or_eq_true, not_or, List.any_eq_true] at this
    refine ⟨by simpa using this.1, fun d hd => ?_⟩
    by_cases hdn : hasNL d = true
    · exact absurd ⟨d, hd, hdn⟩ this.2
    · simpa using hdn
end Go.Proofs.YtgdipdbmllkckaaFmt
