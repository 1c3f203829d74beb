/- The walk of the law FnFixNewlinesArrayIdempotent: it returns true at every slice of slices of codes and every slice of codes, and writes nothing that was there. -/
import Derived.Test.YtepipmjcfnncdaaFmtArFN
import Derived.Test.YtepipmjcfnncdaaFmtArCN
import Derived.Test.YtepipmjcfnncdaaFmtSnps
namespace Go.Proofs.YtepipmjcfnncdaaFmt
open Go.ChangeShapes Go.WideShapes Go.ChangeAt Go.RowKit

set_option maxRecDepth 100000 in
set_option maxHeartbeats 1000000 in
theorem zzBytes_Arr (w : World) (a : Option Addr) (len cap : Nat) (ds : List ZRow) (a2 : Option Addr) (len2 cap2 : Nat) (h : IsZZ w a len cap ds) (h2 : len2 ≤ 9223372036854775807) :
    Calls Tryf.prog 35 #[.slice a len cap, .slice a2 len2 cap2] w (Tells (SmallZZ len ds ∧ len2 ≤ 1048576) w) := by
  have hle := h.le
  have htop := h.top
  unfold maxLen at htop
  have H := Lib.hid h; clear h
  by_cases h0 : 1048576 < len
  · go_enter Tryf.func35, Tryf.ntmps35
    go_wp2_with fail
    go_ret
    exact ⟨false, rfl, Kept.refl _ _, by simp⟩
  go_enter Tryf.func35, Tryf.ntmps35
  go_wp2_with fail
  go_loopw [5, 6] (fun c i wr => ∃ (k : Nat) (n : Int), k ≤ len ∧ i = .int .i64 k ∧ c = .int .i64 n ∧ Kept [] w wr ∧ SmallR k ds) (fun _ i _ => len - (intOf i).toNat)
  case atStart => exact ⟨0, _, Nat.zero_le _, rfl, rfl, Kept.refl _ _, fun i r hi => by omega⟩
  case round =>
    obtain ⟨k, n, hk, rfl, rfl, hb, hs⟩ := hrel
    have HB := Lib.hid hb; clear hb
    have HS := Lib.hid hs; clear hs
    by_cases hlt : k < len
    · obtain ⟨b, o, r, hr, rfl, hbl, c0, -⟩ := (H.out.kept HB.out (by simp)).row k hlt
      have HR := Lib.hid hr; clear hr
      by_cases hrl : 1048576 < r.l
      · go_wp2_with fail
        go_ret
        exact ⟨false, rfl, HB.out, by simp⟩
      have hs2 : SmallR (k + 1) ds := fun i y hi hy => by
        by_cases hik : i < k
        · exact HS.out i y hik hy
        · obtain rfl : i = k := by omega
          rw [HR.out] at hy
          obtain rfl : r = y := by simpa using hy
          omega
      have HS2 := Lib.hid hs2; clear hs2
      go_wp2_with fail
      all_goals
        first
        | (go_ret; exact ⟨false, rfl, HB.out, by simp⟩)
        | exact ⟨⟨k + 1, _, by omega, by go_num, rfl, HB.out, HS2.out⟩, by simp [intOf]; omega⟩
    · obtain rfl : k = len := by omega
      by_cases h3 : 1048576 < len2
      · go_wp2_with fail
        go_ret
        exact ⟨false, rfl, HB.out, by simp⟩
      go_wp2_with fail
      all_goals
        first
        | (go_ret; exact ⟨true, rfl, HB.out, fun _ => ⟨⟨by omega, HS.out⟩, by omega⟩⟩)
        | (go_ret; exact ⟨false, rfl, HB.out, by simp⟩)

namespace fnFixNewlinesArrayIdempotent
set_option maxRecDepth 100000 in
set_option maxHeartbeats 8000000 in
theorem walk (a0 : Option Addr) (len0 cap0 : Nat) (z0 : List ZRow) (a1 : Option Addr) (len1 cap1 : Nat) (z1 : List ZE) (w : World) (w0 : IsZZ w a0 len0 cap0 z0) (w1 : IsZ w a1 len1 cap1 z1) :
    Calls Tryf.prog 6 #[.slice a0 len0 cap0, .slice a1 len1 cap1] w fun e w' => e = .returned (.bool true) ∧ Below w.heap.size w w' := by
  have hle := w0.le
  have htop := w0.top
  have hle1 := w1.le
  have htop1 := w1.top
  unfold maxLen at htop htop1
  have H := Lib.hid w0; clear w0
  have H1 := Lib.hid w1; clear w1
  go_enter Tryf.func6, Tryf.ntmps6
  go_wp2_with fail
  refine (zzBytes_Arr _ _ _ _ z0 _ _ _ H.out (by omega)).mono ?_
  rintro e w1 ⟨b, rfl, k1, hsm⟩
  have K1 := Lib.hid k1; clear k1
  cases b
  · clear hsm
    go_wp2_with fail
    go_ret
    exact ⟨rfl, K1.out.below (Nat.le_refl _) (by simp)⟩
  obtain ⟨⟨hlen, hll⟩, hlen1⟩ := hsm rfl
  clear hsm
  have HLL := Lib.hid hll; clear hll
  go_wp2_with fail
  refine (zzBytes2_any _ _ _ _ z0 (H.out.kept K1.out (by simp))).mono ?_
  rintro e w2 ⟨n2, rfl, k2⟩
  have K2 := Lib.hid (K1.out.trans k2); clear k2
  go_wp2_with fail
  refine (zzBytes_any _ _ _ _ z1 (H1.out.kept K2.out (by simp))).mono ?_
  rintro e w3 ⟨n3, rfl, k3⟩
  have K3 := Lib.hid (K2.out.trans k3); clear k3
  obtain ⟨S, hS⟩ : ∃ S, wrap64 (n2 + n3) = S := ⟨_, rfl⟩
  by_cases hn2 : 1048576 < S
  · go_wp2_with fail
    go_ret
    exact ⟨rfl, K3.out.below (Nat.le_refl _) (by simp)⟩
  go_wp2_with fail
  clear hS
  refine (zzOK2_any _ _ _ _ z0 (H.out.kept K3.out (by simp))).mono ?_
  rintro e w4 ⟨b, rfl, k4, hgd⟩
  have K4 := Lib.hid (K3.out.trans k4); clear k4
  cases b
  · clear hgd
    go_wp2_with fail
    go_ret
    exact ⟨rfl, K4.out.below (Nat.le_refl _) (by simp)⟩
  have HGD := Lib.hid (hgd rfl); clear hgd
  go_wp2_with fail
  refine (zzOK_any _ _ _ _ z1 (H1.out.kept K4.out (by simp))).mono ?_
  rintro e w5 ⟨b, rfl, k5, hgd⟩
  have K5 := Lib.hid (K4.out.trans k5); clear k5
  cases b
  · clear hgd
    go_wp2_with fail
    go_ret
    exact ⟨rfl, K5.out.below (Nat.le_refl _) (by simp)⟩
  have HG1 := Lib.hid (hgd rfl); clear hgd
  go_wp2_with fail
  refine (zzBuildArray_any _ _ _ _ z0 _ _ _ z1 (H.out.kept K5.out (by simp)) (H1.out.kept K5.out (by simp)) HGD.out HG1.out hlen hlen1 HLL.out).mono ?_
  rintro e w6 ⟨nb, eb, vb, x, v, l, rfl, hN, hkl, k6⟩
  have hB : w.heap.size ≤ w5.heap.size := K5.out.size
  obtain ⟨B, hBe⟩ : ∃ B, w5.heap.size = B := ⟨_, rfl⟩
  have hB6 : B ≤ w6.heap.size := hBe ▸ k6.size
  rw [hBe] at hN hB
  have K6 := Lib.hid (K5.out.trans k6); clear k6
  have HN := Lib.hid hN; clear hN
  have HKL := Lib.hid hkl; clear hkl
  clear hBe
  go_wp2_with fail
  refine (zzFixArray _ B nb eb len0 vb x v l HN.out (fun i hi => (HKL.out i hi).1) (fun i hi _ => (HKL.out i hi).2) hlen hB6).mono ?_
  rintro e w7 ⟨rfl, pb, v', l', hA7, hE7, hb7, -⟩
  have hs67 : w6.heap.size ≤ w7.heap.size := hb7.size
  have hw7 : w.heap.size ≤ w7.heap.size := Nat.le_trans K6.out.size hs67
  have B7 := Lib.hid ((K6.out.below (Nat.le_refl _) (by simp)).trans (hb7.mono hB)); clear hb7
  have hkl' : ∀ i, i < len0 + 1 → Kinds (l' i) ∧ (l' i).length ≤ 1048577 ∧ (clean (l' i) = false → (l' i).length ≤ 1048576) := fun i hi => by
    have h1 := HKL.out i hi
    rcases hE7 i hi with ⟨_, h⟩ | ⟨_, h⟩
    · exact ⟨h.kinds h1.1, by have := h.len; omega, fun hc => by rw [h.clean] at hc; cases hc⟩
    · rw [h]; exact ⟨h1.1, by omega, fun _ => h1.2⟩
  have hdec : ∀ i, i < len0 + 1 → expTo l' (len0 + 1) = true → clean (l' i) = true := by
    intro i hi hx'
    by_cases hx : expTo l (len0 + 1) = true
    · rcases hE7 i hi with ⟨_, h⟩ | ⟨h, _⟩
      · exact h.clean
      · exact absurd hx h
    · have : expTo l' (len0 + 1) = expTo l (len0 + 1) := expTo_congr (fun j hj => by
        rcases hE7 j hj with ⟨h, _⟩ | ⟨_, h⟩
        · exact absurd h hx
        · exact h)
      rw [this] at hx'
      exact absurd hx' hx
  have HKL' := Lib.hid hkl'; clear hkl'
  have HDEC := Lib.hid hdec; clear hdec
  have HA := Lib.hid hA7; clear hA7
  clear hE7 HKL HN
  obtain ⟨i0, hi, hz0, hz1, hz2⟩ := info_parts Tryf.infoRow
  go_wp2_with (at_make; refine wpList_make_full _ rfl _ _ 90 rfl w7.heap.size 96 i0 _ 1 Tryf.underlying90 hi hz0 hz1 _ _ _ _ len0 rfl rfl rfl rfl ?b2 ?b3 (Nat.le_refl _) ?_)
  case b2 => rw [hz2]; omega
  case b3 => unfold maxLen; omega
  intro w8 hown hgrow
  have hk8 : Kept [] w7 w8 := (Kept.refl _ _).grown hgrow (by simp)
  obtain ⟨C, hC⟩ : ∃ C, w7.heap.size = C := ⟨_, rfl⟩
  rw [hC] at hown ⊢
  have hsn : Snps w8 C len0 0 l' := by
    refine ⟨fun i hi => by omega, fun j hj => ?_, fun o => World.ownsRow.frozenAt hown o, (World.ownsRow.lt hown C rfl).2⟩
    have hl := hown.1
    have := World.ownsRow.cells hown (g := C) rfl j _ (List.getElem?_eq_getElem (by rw [hl]; omega))
    rw [add_off, Nat.zero_add] at this
    exact ⟨_, this⟩
  clear hown hgrow hi hz0 hz1 hz2
  have HSN := Lib.hid hsn; clear hsn
  have HK8 := Lib.hid hk8; clear hk8
  have HCC := Lib.hid hC; clear hC
  go_wp2_with fail
  go_loopw [8] (fun i wr => ∃ k : Nat, k ≤ len0 ∧ i = .int .i64 k ∧ Kept [] w7 wr ∧ Snps wr C len0 k l') (fun i _ => len0 - (intOf i).toNat)
  case atStart => exact ⟨0, Nat.zero_le _, rfl, HK8.out, HSN.out⟩
  case round =>
    clear HK8 HSN
    obtain ⟨k, hk, rfl, hq, hs⟩ := hrel
    have HQ := Lib.hid hq; clear hq
    have HS := Lib.hid hs; clear hs
    have a := HA.out.kept HQ.out
    by_cases hlt : k < len0
    · have c0 := a.vs k hlt
      have e0 := a.fam.c k (by omega)
      rw [pA_lt hlt] at e0
      dsimp only at e0
      obtain ⟨va, vn, vc, hv⟩ := (HA.out.fam.fod k (by omega)).isSlice
      rw [hv] at e0
      have hfd := a.fam.fod k (by omega)
      rw [hv] at hfd
      have HFD := Lib.hid hfd; clear hfd a hv
      have i1 : (0 : Int) ≤ (k : Int) := by omega
      have i2 : (k : Int) < (len0 : Int) := by omega
      go_wp2_with fail
      refine (zzSnap_any _ B _ (l' k) HFD.out (HKL'.out k (by omega)).1 (by have := (HKL'.out k (by omega)).2.1; omega)).mono ?_
      rintro e w9 ⟨u, rfl, hu, k9⟩
      obtain ⟨ua, uc, hue, -⟩ := hu.slice
      rw [List.length_map] at hue
      have hst := HS.out.step hlt k9 hu
      have h9 := HS.out.kept k9
      obtain ⟨s0, q0⟩ := h9.free k hlt
      have f0 := h9.fr k
      have hq9 : Kept [] w7 (w9.setCell ⟨C, k, none⟩ u) := (HQ.out.trans k9).setCell (p := ⟨C, k, none⟩) (Or.inr (by rw [HCC.out]; exact Nat.le_refl _)) _
      subst hue
      have HST := Lib.hid hst; clear hst
      have HQ9 := Lib.hid hq9; clear hq9
      clear h9 k9 hu c0 e0
      go_wp2_with fail
      exact ⟨⟨k + 1, by omega, by go_num, HQ9.out, HST.out⟩, by simp [intOf]; omega⟩
    · obtain rfl : k = len0 := by omega
      have e0 := a.fam.c k (by omega)
      rw [pA_last] at e0
      dsimp only at e0
      obtain ⟨va, vn, vc, hv⟩ := (HA.out.fam.fod k (by omega)).isSlice
      rw [hv] at e0
      have hfd := a.fam.fod k (by omega)
      rw [hv] at hfd
      have HFD := Lib.hid hfd; clear hfd a
      have HV := Lib.hid hv; clear hv
      have hB7 : B ≤ w7.heap.size := Nat.le_trans hB6 hs67
      go_wp2_with fail
      refine (zzSnap_any _ B _ (l' k) HFD.out (HKL'.out k (by omega)).1 (by have := (HKL'.out k (by omega)).2.1; omega)).mono ?_
      rintro e w9 ⟨u, rfl, hu, k9⟩
      obtain ⟨ua, uc, hue, -⟩ := hu.slice
      rw [List.length_map] at hue
      subst hue
      have HQ9 := Lib.hid (HQ.out.trans k9)
      have HS9 := Lib.hid (HS.out.kept k9)
      have HU9 := Lib.hid hu
      clear hu k9 HFD e0
      go_wp2_with fail
      refine (zzFixArray _ B nb eb k vb x v' l' (fun w' q pb' h1 h2 h3 => HA.out.again (HQ9.out.trans q) (Nat.le_trans HQ9.out.size h1) h2 h3 hB7) (fun i hi => (HKL'.out i hi).1) (fun i hi => (HKL'.out i hi).2.2) hlen (Nat.le_trans hB7 HQ9.out.size)).mono ?_
      rintro e w10 ⟨rfl, _, _, _, _, _, _, h10⟩
      have k10 := h10 HDEC.out
      have HQ10 := Lib.hid (HQ9.out.trans k10)
      have HS10 := Lib.hid (HS9.out.kept k10)
      have HU10 := Lib.hid (HU9.out.kept k10 (by simp))
      clear h10 k10 HS9 HU9
      go_wp2_with fail
      go_loopw [10] (fun i wr => ∃ m : Nat, m ≤ k ∧ i = .int .i64 m ∧ Kept [] w10 wr) (fun i _ => k - (intOf i).toNat)
      case atStart => exact ⟨0, Nat.zero_le _, rfl, Kept.refl _ _⟩
      case round =>
        obtain ⟨m, hm, rfl, hq⟩ := hrel
        have HR := Lib.hid hq; clear hq
        have a := HA.out.kept (HQ10.out.trans HR.out)
        by_cases hlt : m < k
        · have c0 := a.vs m hlt
          have e0 := a.fam.c m (by omega)
          rw [pA_lt hlt] at e0
          dsimp only at e0
          obtain ⟨va, vn, vc, hv⟩ := (HA.out.fam.fod m (by omega)).isSlice
          rw [hv] at e0
          have hfd := a.fam.fod m (by omega)
          rw [hv] at hfd
          have HFD := Lib.hid hfd; clear hfd hv a
          obtain ⟨u, q0, hu⟩ := (HS10.out.kept HR.out).at' m hlt
          obtain ⟨sa, sc, hue, -⟩ := hu.slice
          rw [List.length_map] at hue
          subst hue
          have HU := Lib.hid hu; clear hu
          have i1 : (0 : Int) ≤ (m : Int) := by omega
          have i2 : (m : Int) < (k : Int) := by omega
          go_wp2_with fail
          go_still_tail 12, (by kernel_rfl)
          go_wp2_with fail
          have q := (Kept.refl [] wr).drew
          refine (zzAfter_same _ B _ _ _ (l' m) (HFD.out.kept q (by simp)) (HU.out.kept q (by simp)) (HKL'.out m (by omega)).1).mono ?_
          rintro e w11 ⟨rfl, k11⟩
          have HR11 := Lib.hid ((HR.out.trans q).trans k11)
          clear q k11
          go_wp2_with fail
          exact ⟨⟨m + 1, by omega, by go_num, HR11.out⟩, by simp [intOf]; omega⟩
        · obtain rfl : m = k := by omega
          have e0 := a.fam.c m (by omega)
          rw [pA_last, HV.out] at e0
          dsimp only at e0
          have hfd := a.fam.fod m (by omega)
          rw [HV.out] at hfd
          have HFD := Lib.hid hfd; clear hfd a
          go_wp2_with fail
          refine (zzAfter_same _ B _ _ _ (l' m) HFD.out (HU10.out.kept HR.out (by simp)) (HKL'.out m (by omega)).1).mono ?_
          rintro e w11 ⟨rfl, k11⟩
          have HR11 := Lib.hid (HR.out.trans k11); clear k11
          go_wp2_with fail
          go_ret
          exact ⟨rfl, B7.out.trans ((HQ10.out.trans HR11.out).below hw7 (by simp))⟩
end fnFixNewlinesArrayIdempotent
end Go.Proofs.YtepipmjcfnncdaaFmt
