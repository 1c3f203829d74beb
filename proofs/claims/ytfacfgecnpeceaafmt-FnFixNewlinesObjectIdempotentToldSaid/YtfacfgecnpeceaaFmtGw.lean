/- The walk of the law FnFixNewlinesObjectIdempotent: it returns true at every slice of fields and every slice of codes, and writes nothing that was there. -/
import Derived.Test.YtfacfgecnpeceaaFmtGu
namespace Go.Proofs.YtfacfgecnpeceaaFmt
open Go.ChangeShapes Go.WideShapes Go.ChangeAt Go.RowKit

namespace fnFixNewlinesObjectIdempotent
set_option maxRecDepth 100000 in
set_option maxHeartbeats 8000000 in
theorem walk (a0 : Option Addr) (len0 cap0 : Nat) (z0 : List GR) (a1 : Option Addr) (len1 cap1 : Nat) (z1 : List ZE) (w : World) (w0 : IsG w a0 len0 cap0 z0) (w1 : IsZ w a1 len1 cap1 z1) :
    Calls Tryf.prog 3 #[.slice a0 len0 cap0, .slice a1 len1 cap1] w fun e w' => e = .returned (.bool true) ∧ Below w.heap.size w w' := by
  have hle := w0.le
  have htop := w0.top
  have hle1 := w1.le
  have htop1 := w1.top
  unfold maxLen at htop htop1
  have H := Lib.hid w0; clear w0
  have H1 := Lib.hid w1; clear w1
  go_enter Tryf.func3, Tryf.ntmps3
  go_wp2_with fail
  refine (zzBytes_Obj _ _ _ _ z0 _ _ _ H.out (by omega)).mono ?_
  rintro e w1 ⟨b, rfl, k1, hsm⟩
  have K1 := Lib.hid k1; clear k1
  cases b
  · clear hsm
    go_wp2_with fail
    go_ret
    exact ⟨rfl, K1.out.below (Nat.le_refl _) (by simp)⟩
  obtain ⟨⟨hlen, hll⟩, hlen1⟩ := hsm rfl
  clear hsm
  have HLL := Lib.hid hll; clear hll
  go_wp2_with fail
  refine (zzBytesFields_any _ _ _ _ z0 (H.out.kept K1.out (by simp))).mono ?_
  rintro e w2 ⟨n2, rfl, k2⟩
  have K2 := Lib.hid (K1.out.trans k2); clear k2
  go_wp2_with fail
  refine (zzBytes_any _ _ _ _ z1 (H1.out.kept K2.out (by simp))).mono ?_
  rintro e w3 ⟨n3, rfl, k3⟩
  have K3 := Lib.hid (K2.out.trans k3); clear k3
  obtain ⟨S, hS⟩ : ∃ S, wrap64 (n2 + n3) = S := ⟨_, rfl⟩
  by_cases hn2 : 1048576 < S
  · go_wp2_with fail
    go_ret
    exact ⟨rfl, K3.out.below (Nat.le_refl _) (by simp)⟩
  go_wp2_with fail
  clear hS
  refine (zzOKFields_any _ _ _ _ z0 (H.out.kept K3.out (by simp))).mono ?_
  rintro e w4 ⟨b, rfl, k4, hgd⟩
  have K4 := Lib.hid (K3.out.trans k4); clear k4
  cases b
  · clear hgd
    go_wp2_with fail
    go_ret
    exact ⟨rfl, K4.out.below (Nat.le_refl _) (by simp)⟩
  have HGD := Lib.hid (hgd rfl); clear hgd
  go_wp2_with fail
  refine (zzOK_any _ _ _ _ z1 (H1.out.kept K4.out (by simp))).mono ?_
  rintro e w5 ⟨b, rfl, k5, hgd⟩
  have K5 := Lib.hid (K4.out.trans k5); clear k5
  cases b
  · clear hgd
    go_wp2_with fail
    go_ret
    exact ⟨rfl, K5.out.below (Nat.le_refl _) (by simp)⟩
  have HG1 := Lib.hid (hgd rfl); clear hgd
  go_wp2_with fail
  refine (zzBuildObject_ob _ _ _ _ z0 _ _ _ z1 (H.out.kept K5.out (by simp)) (H1.out.kept K5.out (by simp)) HGD.out HG1.out hlen hlen1 HLL.out).mono ?_
  rintro e w6 ⟨ob, lb, F, Q, v, l, hF, rfl, hN, hkl, hL, hq, hp, k6⟩
  have hB : w.heap.size ≤ w5.heap.size := K5.out.size
  obtain ⟨B, hBe⟩ : ∃ B, w5.heap.size = B := ⟨_, rfl⟩
  have hB6 : B ≤ w6.heap.size := hBe ▸ k6.size
  rw [hBe] at hN hB
  have K6 := Lib.hid (K5.out.trans k6); clear k6
  have HF := Lib.hid hF; clear hF
  have HN := Lib.hid hN; clear hN
  have HKL := Lib.hid hkl; clear hkl
  have HL := Lib.hid hL; clear hL
  have HQ0 := Lib.hid hq; clear hq
  have HP := Lib.hid hp; clear hp
  clear hBe
  go_wp2_with fail
  refine (zzFixObject_lit _ B ob lb len0 F Q v l HN.out HKL.out HL.out HQ0.out HP.out hB6).mono ?_
  rintro e w7 ⟨rfl, Q', v', l', hA7, hkl', hL7, hdec, hb7⟩
  have hs67 : w6.heap.size ≤ w7.heap.size := hb7.size
  have hw7 : w.heap.size ≤ w7.heap.size := Nat.le_trans K6.out.size hs67
  have hB7 : B ≤ w7.heap.size := Nat.le_trans hB6 hs67
  have B7 := Lib.hid ((K6.out.below (Nat.le_refl _) (by simp)).trans (hb7.mono hB)); clear hb7
  have HKL' := Lib.hid hkl'; clear hkl'
  have HDEC := Lib.hid hdec; clear hdec
  have HA := Lib.hid hA7; clear hA7
  have HLR := Lib.hid hL7; clear hL7
  clear HKL HN HL HQ0 HP
  obtain ⟨i0, hi, hz0, hz1, hz2⟩ := info_parts Tryf.infoRow
  have HI := Lib.hid hi; clear hi
  have HI0 := Lib.hid hz0; clear hz0
  have HI1 := Lib.hid hz1; clear hz1
  have HI2 := Lib.hid hz2; clear hz2
  go_wp2_with (at_make; refine wpList_make_full _ rfl _ _ 34 rfl w7.heap.size 23 i0 _ 1 Tryf.underlying34 HI.out HI0.out HI1.out _ _ _ _ len0 rfl rfl rfl rfl ?b2 ?b3 (Nat.le_refl _) ?_)
  case b2 => rw [HI2.out]; omega
  case b3 => unfold maxLen; omega
  intro w8 hown hgrow
  have hk8 : Kept [] w7 w8 := (Kept.refl _ _).grown hgrow (by simp)
  have hl8 := (World.ownsRow.lt hown w7.heap.size rfl)
  obtain ⟨C1, hC1⟩ : ∃ C, w7.heap.size = C := ⟨_, rfl⟩
  rw [hC1] at hown hl8 ⊢
  have OWN1 := Lib.hid hown; clear hown
  have KK8 := Lib.hid hk8; clear hk8 hgrow
  have HC1 := Lib.hid hC1; clear hC1
  have L8 := Lib.hid hl8; clear hl8
  go_wp2_with (at_make; refine wpList_make_full _ rfl _ _ 34 rfl w8.heap.size 23 i0 _ 1 Tryf.underlying34 HI.out HI0.out HI1.out _ _ _ _ len0 rfl rfl rfl rfl ?b2 ?b3 (Nat.le_refl _) ?_)
  case b2 => rw [HI2.out]; omega
  case b3 => unfold maxLen; omega
  intro w9 hown hgrow
  have hk9 : Kept [] w8 w9 := (Kept.refl _ _).grown hgrow (by simp)
  obtain ⟨C2, hC2⟩ : ∃ C, w8.heap.size = C := ⟨_, rfl⟩
  rw [hC2] at hown ⊢
  have hc12 : C1 < C2 := by have := L8.out.2; omega
  have hc2 : C2 < w9.heap.size := (World.ownsRow.lt hown C2 rfl).2
  obtain ⟨D, hD⟩ : ∃ D, w9.heap.size = D := ⟨_, rfl⟩
  have hs1 : SnpB w9 C1 D len0 0 (fun i => l' (i, 0)) := by
    have h8 : SnpB w8 C1 w8.heap.size len0 0 (fun i => l' (i, 0)) := by
      refine ⟨fun i hi => by omega, fun j hj => ?_, fun o => World.ownsRow.frozenAt OWN1.out o, ⟨L8.out.2, Nat.le_refl _⟩⟩
      have hl := OWN1.out.1
      have := World.ownsRow.cells OWN1.out (g := C1) rfl j _ (List.getElem?_eq_getElem (by rw [hl]; omega))
      rw [add_off, Nat.zero_add] at this
      exact ⟨_, this⟩
    have h9 := h8.kept hk9
    exact ⟨fun i hi => by omega, h9.free, h9.fr, ⟨by omega, by omega⟩⟩
  have hs2 : SnpB w9 C2 D len0 0 (fun i => l' (i, 1)) := by
    refine ⟨fun i hi => by omega, fun j hj => ?_, fun o => World.ownsRow.frozenAt hown o, ⟨by omega, by omega⟩⟩
    have hl := hown.1
    have := World.ownsRow.cells hown (g := C2) rfl j _ (List.getElem?_eq_getElem (by rw [hl]; omega))
    rw [add_off, Nat.zero_add] at this
    exact ⟨_, this⟩
  have HS1 := Lib.hid hs1; clear hs1
  have HS2 := Lib.hid hs2; clear hs2
  have HK9 := Lib.hid (KK8.out.trans hk9); clear hk9 hgrow hown KK8 OWN1 L8 hD hC2 HI HI0 HI1 HI2
  have hc1w : w7.heap.size ≤ C1 := by rw [HC1.out]; exact Nat.le_refl _
  have hc2w : w7.heap.size ≤ C2 := by omega
  have hc2D := hc2
  have HCD : Hid (C1 < D ∧ C2 < D ∧ w7.heap.size ≤ C1 ∧ w7.heap.size ≤ C2 ∧ C1 ≠ C2) := Lib.hid ⟨HS1.out.el.1, HS2.out.el.1, hc1w, hc2w, by omega⟩
  clear hc12 hc2 hc1w hc2w hc2D HC1
  go_wp2_with fail
  go_loopw [9] (fun i wr => ∃ k : Nat, k ≤ len0 ∧ i = .int .i64 k ∧ Kept [] w7 wr ∧ SnpB wr C1 D len0 k (fun i => l' (i, 0)) ∧ SnpB wr C2 D len0 k (fun i => l' (i, 1))) (fun i _ => len0 - (intOf i).toNat)
  case atStart => exact ⟨0, Nat.zero_le _, rfl, HK9.out, HS1.out, HS2.out⟩
  case round =>
    clear HK9 HS1 HS2
    obtain ⟨k, hk, rfl, hq, hs1, hs2⟩ := hrel
    have HQ := Lib.hid hq; clear hq
    have HS1 := Lib.hid hs1; clear hs1
    have HS2 := Lib.hid hs2; clear hs2
    by_cases hlt : k < len0
    · have i1 : (0 : Int) ≤ (k : Int) := by omega
      have i2 : (k : Int) < (len0 : Int) := by omega
      have hx0 : gI F (k, 0) := gI_o (by rw [HF.out]; exact hlt)
      have hx1 : gI F (k, 1) := gI_t (by rw [HF.out]; exact hlt)
      have HX0 := Lib.hid hx0; clear hx0
      have HX1 := Lib.hid hx1; clear hx1
      go_wp2_with fail
      refine (zzObjOpen_any _ B ob F Q' v' l' (HA.out.kept HQ.out) lb len0 HF.out (HLR.out.kept HQ.out) k hlt).mono ?_
      rintro e wa ⟨rfl, ka⟩
      have HQa := Lib.hid (HQ.out.trans ka)
      have KA := Lib.hid ka; clear ka
      obtain ⟨va, vn, vc, hv⟩ := (HA.out.fam.fod (k, 0) HX0.out).isSlice
      have hfd := (HA.out.kept HQa.out).fam.fod (k, 0) HX0.out
      rw [hv] at hfd ⊢
      have HFD := Lib.hid hfd; clear hfd hv
      go_wp2_with fail
      refine (zzSnap_any _ B _ (l' (k, 0)) HFD.out (HKL'.out _ HX0.out).1 (by have := (HKL'.out _ HX0.out).2.1; omega)).mono ?_
      rintro e wb ⟨u, rfl, hu, kb⟩
      obtain ⟨ua, uc, hue, -⟩ := hu.slice
      rw [List.length_map] at hue
      have hu2 : Snp wb wr.heap.size u ((l' (k, 0)).map FE.snap) := hu.far (Kept.refl [] wb) (by simp) KA.out.size
      have hst := HS1.out.step hlt (KA.out.trans kb) hu2
      have hst2 := HS2.out.other (KA.out.trans kb) C1 k u HCD.out.1 (Ne.symm HCD.out.2.2.2.2)
      have hb := HS1.out.kept (KA.out.trans kb)
      obtain ⟨s0, q0⟩ := hb.free k hlt
      have f0 := hb.fr k
      obtain ⟨W, hW⟩ : ∃ W, wb.setCell ⟨C1, k, none⟩ u = W := ⟨_, rfl⟩
      have hqW : Kept [] w7 W := by rw [← hW]; exact (HQa.out.trans kb).setCell (p := ⟨C1, k, none⟩) (Or.inr HCD.out.2.2.1) _
      rw [hW] at hst hst2
      subst hue
      have HST := Lib.hid hst; clear hst
      have HST2 := Lib.hid hst2; clear hst2
      have HQW := Lib.hid hqW; clear hqW
      clear hb hu hu2 kb HFD
      go_wp2_with fail
      clear hW q0 f0
      refine (zzObjOther_any _ B ob F Q' v' l' (HA.out.kept HQW.out) lb len0 HF.out (HLR.out.kept HQW.out) k hlt).mono ?_
      rintro e wc ⟨rfl, kc⟩
      have HQc := Lib.hid (HQW.out.trans kc)
      have KC := Lib.hid kc; clear kc
      obtain ⟨ta, tn, tc, ht⟩ := (HA.out.fam.fod (k, 1) HX1.out).isSlice
      have hfd := (HA.out.kept HQc.out).fam.fod (k, 1) HX1.out
      rw [ht] at hfd ⊢
      have HFD := Lib.hid hfd; clear hfd ht
      go_wp2_with fail
      refine (zzSnap_any _ B _ (l' (k, 1)) HFD.out (HKL'.out _ HX1.out).1 (by have := (HKL'.out _ HX1.out).2.1; omega)).mono ?_
      rintro e wd ⟨x, rfl, hx, kd⟩
      obtain ⟨xa, xc, hxe, -⟩ := hx.slice
      rw [List.length_map] at hxe
      have hx2 : Snp wd W.heap.size x ((l' (k, 1)).map FE.snap) := hx.far (Kept.refl [] wd) (by simp) KC.out.size
      have hst := HST2.out.step hlt (KC.out.trans kd) hx2
      have hst2 := HST.out.other (KC.out.trans kd) C2 k x HCD.out.2.1 HCD.out.2.2.2.2
      have hb := HST2.out.kept (KC.out.trans kd)
      obtain ⟨s1, q1⟩ := hb.free k hlt
      have f1 := hb.fr k
      obtain ⟨W2, hW2⟩ : ∃ W, wd.setCell ⟨C2, k, none⟩ x = W := ⟨_, rfl⟩
      have hqW : Kept [] w7 W2 := by rw [← hW2]; exact (HQc.out.trans kd).setCell (p := ⟨C2, k, none⟩) (Or.inr HCD.out.2.2.2.1) _
      rw [hW2] at hst hst2
      subst hxe
      have HST3 := Lib.hid hst; clear hst
      have HST4 := Lib.hid hst2; clear hst2
      have HQW2 := Lib.hid hqW; clear hqW
      clear hb hx hx2 kd HFD
      go_wp2_with fail
      exact ⟨⟨k + 1, by omega, by go_num, HQW2.out, HST4.out, HST3.out⟩, by simp [intOf]; omega⟩
    · obtain rfl : k = len0 := by omega
      have e0 := (HA.out.kept HQ.out).cc
      have hxc : gI F (F.nf, 0) := gI_c F
      rw [HF.out] at hxc e0
      obtain ⟨va, vn, vc, hv⟩ := (HA.out.fam.fod (k, 0) hxc).isSlice
      rw [hv] at e0
      have hfd := (HA.out.kept HQ.out).fam.fod (k, 0) hxc
      rw [hv] at hfd
      have HXC := Lib.hid hxc; clear hxc
      have HFD := Lib.hid hfd; clear hfd
      have HV := Lib.hid hv; clear hv
      go_wp2_with fail
      refine (zzSnap_any _ B _ (l' (k, 0)) HFD.out (HKL'.out _ HXC.out).1 (by have := (HKL'.out _ HXC.out).2.1; omega)).mono ?_
      rintro e w9 ⟨u, rfl, hu, k9⟩
      obtain ⟨ua, uc, hue, -⟩ := hu.slice
      rw [List.length_map] at hue
      subst hue
      have HQ9 := Lib.hid (HQ.out.trans k9)
      have HS9 := Lib.hid (HS1.out.kept k9)
      have HT9 := Lib.hid (HS2.out.kept k9)
      have HU9 := Lib.hid hu
      clear hu k9 HFD e0 HS1 HS2
      go_wp2_with fail
      refine (zzFixObject _ B ob F Q' v' l' (HA.out.kept HQ9.out) (fun x hx => (HKL'.out x hx).1) (fun x hx => (HKL'.out x hx).2.2) (Nat.le_trans hB7 HQ9.out.size)).mono ?_
      rintro e w10 ⟨rfl, _, _, _, _, _, _, _, _, h10⟩
      have k10 := h10 HDEC.out
      have HQ10 := Lib.hid (HQ9.out.trans k10)
      have HS10 := Lib.hid (HS9.out.kept k10)
      have HT10 := Lib.hid (HT9.out.kept k10)
      have HU10 := Lib.hid (HU9.out.kept k10 (by simp))
      clear h10 k10 HS9 HT9 HU9
      go_wp2_with fail
      go_loopw [11] (fun i wr => ∃ m : Nat, m ≤ k ∧ i = .int .i64 m ∧ Kept [] w10 wr) (fun i _ => k - (intOf i).toNat)
      case atStart => exact ⟨0, Nat.zero_le _, rfl, Kept.refl _ _⟩
      case round =>
        obtain ⟨m, hm, rfl, hq⟩ := hrel
        have HR := Lib.hid hq; clear hq
        by_cases hlt : m < k
        · have i1 : (0 : Int) ≤ (m : Int) := by omega
          have i2 : (m : Int) < (k : Int) := by omega
          have hx0 : gI F (m, 0) := gI_o (by rw [HF.out]; exact hlt)
          have hx1 : gI F (m, 1) := gI_t (by rw [HF.out]; exact hlt)
          have HX0 := Lib.hid hx0; clear hx0
          have HX1 := Lib.hid hx1; clear hx1
          obtain ⟨u, q0, hu⟩ := (HS10.out.kept HR.out).at' m hlt
          obtain ⟨sa, sc, hue, -⟩ := hu.slice
          rw [List.length_map] at hue
          subst hue
          have HU := Lib.hid hu; clear hu
          obtain ⟨x, p0, hx⟩ := (HT10.out.kept HR.out).at' m hlt
          obtain ⟨xa, xc, hxe, -⟩ := hx.slice
          rw [List.length_map] at hxe
          subst hxe
          have HX := Lib.hid hx; clear hx
          have Q0 := Lib.hid q0; clear q0
          have P0 := Lib.hid p0; clear p0
          go_wp2_with fail
          go_region_held3 (fun w' => w'.cell? ⟨C1, m, none⟩ = some (.slice sa (l' (m, 0)).length sc) ∧ Kept [] wr w')
            ((try go_split_ands; refine (fun h : Kept [] wr _ => ⟨h.cell Q0.out (by simp), h⟩) ?_; first | assumption | exact R2.out | exact R1.out | exact (Kept.refl [] wr).drew))
            (first
            | (go_at_call 14; have hp := R1.out; clear hp; refine (zzAfter_same _ B _ _ _ (l' (m, 0)) HFD.out (HU.out.kept R1.out (by simp)) (HKL'.out _ HX0.out).1).mono ?_; rintro e w12 ⟨rfl, k12⟩; have R2 : Hid (Kept [] wr w12) := Lib.hid (R1.out.trans k12); clear k12)
            | (go_at_call 12; refine (zzObjOpen_any _ B ob F Q' v' l' (HA.out.kept (HQ10.out.trans HR.out.drew)) lb k HF.out (HLR.out.kept (HQ10.out.trans HR.out.drew)) m hlt).mono ?_; rintro e w11 ⟨rfl, k11⟩; obtain ⟨va', vn', vc', hv'⟩ := (HA.out.fam.fod (m, 0) HX0.out).isSlice; have R1 : Hid (Kept [] wr w11) := Lib.hid ((Kept.refl [] wr).drew.trans k11); have hfd := (HA.out.kept (HQ10.out.trans (HR.out.trans R1.out))).fam.fod (m, 0) HX0.out; rw [hv'] at hfd ⊢; have HFD := Lib.hid hfd; clear hfd hv' k11))
          all_goals
            clear HFD
            have P12 := Lib.hid (R2.out.cell P0.out (by simp))
            have HX12 := Lib.hid (HX.out.kept R2.out (by simp))
            have HR12 := Lib.hid (HR.out.trans R2.out)
            clear R1 R2 P0 HX Q0 HU
            go_wp2_with fail
          all_goals
            go_region_held3 (fun w' => w'.cell? ⟨C2, m, none⟩ = some (.slice xa (l' (m, 1)).length xc) ∧ Kept [] w12 w')
              ((try go_split_ands; refine (fun h : Kept [] w12 _ => ⟨h.cell P12.out (by simp), h⟩) ?_; first | assumption | exact R4.out | exact R3.out | exact (Kept.refl [] w12).drew))
              (first
              | (go_at_call 14; have hp := R3.out; clear hp; refine (zzAfter_same _ B _ _ _ (l' (m, 1)) HFD3.out (HX12.out.kept R3.out (by simp)) (HKL'.out _ HX1.out).1).mono ?_; rintro e w14 ⟨rfl, k14⟩; have R4 : Hid (Kept [] w12 w14) := Lib.hid (R3.out.trans k14); clear k14)
              | (go_at_call 13; refine (zzObjOther_any _ B ob F Q' v' l' (HA.out.kept (HQ10.out.trans HR12.out.drew)) lb k HF.out (HLR.out.kept (HQ10.out.trans HR12.out.drew)) m hlt).mono ?_; rintro e w13 ⟨rfl, k13⟩; obtain ⟨va3, vn3, vc3, hv3⟩ := (HA.out.fam.fod (m, 1) HX1.out).isSlice; have R3 : Hid (Kept [] w12 w13) := Lib.hid ((Kept.refl [] w12).drew.trans k13); have hfd := (HA.out.kept (HQ10.out.trans (HR12.out.trans R3.out))).fam.fod (m, 1) HX1.out; rw [hv3] at hfd ⊢; have HFD3 := Lib.hid hfd; clear hfd hv3 k13))
          all_goals
            have HR14 := Lib.hid (HR12.out.trans R4.out)
            clear R3 R4 P12 HX12 HFD3
            go_wp2_with fail
            exact ⟨⟨m + 1, by omega, by go_num, HR14.out⟩, by simp [intOf]; omega⟩
        · obtain rfl : m = k := by omega
          have e0 := (HA.out.kept (HQ10.out.trans HR.out)).cc
          rw [HF.out, HV.out] at e0
          have hfd := (HA.out.kept (HQ10.out.trans HR.out)).fam.fod (m, 0) HXC.out
          rw [HV.out] at hfd
          have HFD := Lib.hid hfd; clear hfd
          go_wp2_with fail
          refine (zzAfter_same _ B _ _ _ (l' (m, 0)) HFD.out (HU10.out.kept HR.out (by simp)) (HKL'.out _ HXC.out).1).mono ?_
          rintro e w11 ⟨rfl, k11⟩
          have HR11 := Lib.hid (HR.out.trans k11); clear k11
          go_wp2_with fail
          go_ret
          exact ⟨rfl, B7.out.trans ((HQ10.out.trans HR11.out).below hw7 (by simp))⟩
end fnFixNewlinesObjectIdempotent
end Go.Proofs.YtfacfgecnpeceaaFmt
