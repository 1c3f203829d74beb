/- The walk of the law FnExtractImportElemsSplitConserves: it returns true at every input, and writes nothing that was there. -/
import Derived.Test.YtddcpnhpjgeldaaFmtFW0
namespace Go.Proofs.YtddcpnhpjgeldaaFmt
attribute [local go_sem ↓] Go.wp_at_zero Go.wp_at_succ
open Go.ChangeShapes Go.WideShapes Go.ChangeAt Go.RowKit

theorem adj_bound {z : List (List ZE)} (h : ∀ r ∈ z, r.length ≤ 65536) (i : Nat) : (adjC z i).length ≤ 65536 ∧ ∀ e ∈ adjC z i, e.c ≤ 4 := by
  by_cases hi : i < z.length
  · rw [adjC_at (List.getElem?_eq_getElem hi)]
    refine ⟨by rw [List.length_map]; exact h _ (List.getElem_mem hi), fun e he => ?_⟩
    obtain ⟨x, -, rfl⟩ := List.mem_map.1 he
    have := nc_le x.c
    simp only [nz]
    omega
  · rw [adjC_no (by omega)]
    simp

theorem stepS_len (t : List ZE × List ZE × Bool) (e : ZE) : (stepS t e).1.length ≤ t.1.length + 1 := by
  unfold stepS
  split
  · dsimp only; omega
  · split
    · simp
    · split <;> simp
theorem splitS_len (z : List ZE) : (splitS z).1.length ≤ z.length := by
  have key : ∀ m, m ≤ z.length → (splitS (z.take m)).1.length ≤ m := by
    intro m
    induction m with
    | zero => intro _; simp [splitS]
    | succ m ih =>
      intro hm
      rw [take_snoc (List.getElem?_eq_getElem (show m < z.length by omega)), splitS_snoc]
      have h1 := stepS_len (splitS (z.take m)) z[m]
      have h2 := ih (by omega)
      omega
  have := key z.length (Nat.le_refl _)
  rwa [List.take_length] at this
theorem adC_len {dd : List (List ZE)} (h : ∀ r ∈ dd, r.length ≤ 65536) {z : List ZE} (hz : (z.map nz).length ≤ 65536) (n i : Nat) : (adC dd n (z.map nz) i).length ≤ 65537 := by
  unfold adC
  split
  · have h1 := ens_len (splitS (adjC dd (i + 1))).1
    have h2 := splitS_len (adjC dd (i + 1))
    have h3 := (adj_bound h (i + 1)).1
    omega
  · have h1 := ens_len (z.map nz)
    omega
/-- The sums that the law compares. -/
theorem law_sum {g : ZE → Int} (hg : Good g) {A B S z : List ZE} (hA : A = ens (splitS z).1) (hB : B = (splitS z).2.1) (hS : S = z) (hz : ∀ e ∈ z, 0 ≤ e.c) : wrap64 (wrap64 (sumOf g A) + wrap64 (sumOf g B)) = wrap64 (sumOf g S) := by
  rw [w64_l, w64_r, hA, hB, hS, ens_sum hg, split_sum hg z hz]
theorem nz_c (r : List ZE) : ∀ e ∈ r.map nz, 0 ≤ e.c := by
  intro e he
  obtain ⟨x, -, rfl⟩ := List.mem_map.1 he
  simp [nz]

namespace fnExtractImportElemsSplitConserves
set_option maxRecDepth 100000 in
set_option maxHeartbeats 16000000 in
theorem walk (a0 : Option Addr) (len0 cap0 : Nat) (z0 : List ByteArray) (a1 : Option Addr) (len1 cap1 : Nat) (z1 : List ByteArray) (a2 : Option Addr) (len2 cap2 : Nat) (z2 : List (List ZE)) (a3 : Option Addr) (len3 cap3 : Nat) (z3 : List ZE) (w : World) (w0 : IsStrs w a0 len0 cap0 z0) (w1 : IsStrs w a1 len1 cap1 z1) (w2 : RdR w a2 len2 cap2 z2) (w3 : RdZ w a3 len3 cap3 z3) :
    Calls Tryf.prog 3 #[.slice a0 len0 cap0, .slice a1 len1 cap1, .slice a2 len2 cap2, .slice a3 len3 cap3] w fun e w' => e = .returned (.bool true) ∧ Below w.heap.size w w' := by
  obtain ⟨vs, hvs⟩ : ∃ vs, z0.take len0 = vs := ⟨_, rfl⟩
  obtain ⟨ks, hks⟩ : ∃ ks, z1.take len1 = ks := ⟨_, rfl⟩
  obtain ⟨i0, hi, hz0, hz1, hz2⟩ := info_parts Tryf.infoLB
  have HI := Lib.hid hi; clear hi
  have HI0 := Lib.hid hz0; clear hz0
  have HI1 := Lib.hid hz1; clear hz1
  have HI2 := Lib.hid hz2; clear hz2
  obtain ⟨le0, top0, -, -, -⟩ := w0.open
  obtain ⟨le1, top1, -, -, -⟩ := w1.open
  have le2 := w2.le
  have top2 := w2.top
  have le3 := w3.le
  have top3 := w3.top
  have hm3 : len3 ≤ maxLen := Nat.le_trans le3 top3
  have HM3 := Lib.hid hm3; clear hm3
  unfold maxLen at top0 top1 top2 top3
  have R0 := Lib.hid w0.rdb
  have W0 := Lib.hid w0; clear w0
  have R1 := Lib.hid w1.rdb
  have W1 := Lib.hid w1; clear w1
  have hl2 := w2.len
  have HL2 := Lib.hid hl2; clear hl2
  have W2 := Lib.hid w2; clear w2
  have hl3 := w3.len
  have HL3 := Lib.hid hl3; clear hl3
  have W3 := Lib.hid w3; clear w3
  go_enter Tryf.func3, Tryf.ntmps3
  go_wp2_with fail
  refine (zzB_FnExtractImportElemsSplitConserves _ _ _ _ z0 _ _ _ z1 _ _ _ z2 _ _ _ W0.out W1.out W2.out HM3.out).mono ?_
  rintro e w1 ⟨b, rfl, k1⟩
  have K1 := Lib.hid k1; clear k1
  cases b
  · go_wp2_with fail
    go_ret
    exact ⟨rfl, K1.out.below (Nat.le_refl _) (by simp)⟩
  by_cases g0 : 65536 < len0
  · go_wp2_with fail
    go_ret
    exact ⟨rfl, K1.out.below (Nat.le_refl _) (by simp)⟩
  by_cases g1 : 65536 < len1
  · go_wp2_with fail
    go_ret
    exact ⟨rfl, K1.out.below (Nat.le_refl _) (by simp)⟩
  by_cases g2 : 65536 < len2
  · go_wp2_with fail
    go_ret
    exact ⟨rfl, K1.out.below (Nat.le_refl _) (by simp)⟩
  by_cases g3 : 65536 < len3
  · go_wp2_with fail
    go_ret
    exact ⟨rfl, K1.out.below (Nat.le_refl _) (by simp)⟩
  go_wp2_with fail
  refine (strBytes_any _ _ _ _ z0 (K1.out.strs W0.out (by simp))).mono ?_
  rintro e w2 ⟨n0, b0, rfl, k2⟩
  have K2 := Lib.hid (K1.out.trans k2); clear k2 K1
  go_wp2_with fail
  refine (strBytes_any _ _ _ _ z1 (K2.out.strs W1.out (by simp))).mono ?_
  rintro e w3 ⟨n1, b1, rfl, k2⟩
  have K3 := Lib.hid (K2.out.trans k2); clear k2 K2
  go_wp2_with fail
  refine (nested_any _ _ _ _ z2 (W2.out.kept0 K3.out)).mono ?_
  rintro e w4 ⟨n2, b2, rfl, k2, HROW⟩
  have K4 := Lib.hid (K3.out.trans k2); clear k2 K3
  cases b0
  · go_wp2_with fail
    go_ret
    exact ⟨rfl, K4.out.below (Nat.le_refl _) (by simp)⟩
  cases b1
  · go_wp2_with fail
    go_ret
    exact ⟨rfl, K4.out.below (Nat.le_refl _) (by simp)⟩
  cases b2
  · go_wp2_with fail
    go_ret
    exact ⟨rfl, K4.out.below (Nat.le_refl _) (by simp)⟩
  have HRW : Hid (∀ r ∈ z2, r.length ≤ 65536) := Lib.hid (HROW.out rfl)
  clear HROW
  go_wp2_with fail
  all_goals first
    | (go_ret; exact ⟨rfl, K4.out.below (Nat.le_refl _) (by simp)⟩)
    | skip
  rename wrap64 _ ≤ 1048576 => hgd
  clear hgd
  rw [hvs] at R0
  rw [hks] at R1
  clear hvs hks
  refine (min_any _ len0 len1).mono ?_
  rintro e w' ⟨rfl, rfl⟩
  obtain ⟨n', hn'⟩ : ∃ n, min len0 len1 = n := ⟨_, rfl⟩
  rw [hn']
  go_wp2_with fail
  refine (min_any _ n' len2).mono ?_
  rintro e w' ⟨rfl, rfl⟩
  obtain ⟨n, hn⟩ : ∃ n, min n' len2 = n := ⟨_, rfl⟩
  rw [hn]
  have hn0 : n ≤ len0 := by omega
  have hn1 : n ≤ len1 := by omega
  have hn2 : n ≤ len2 := by omega
  clear hn hn'
  by_cases hz : n = 0
  · subst hz
    go_wp2_with fail
    go_ret
    exact ⟨rfl, K4.out.below (Nat.le_refl _) (by simp)⟩
  have hzi : ((n : Int) == 0) = false := by simp; omega
  go_wp2_with (at_make; refine wpList_make_own _ rfl _ _ 31 rfl w4.heap.size 44 i0 _ 12 Tryf.underlying31 HI.out HI0.out HI1.out _ _ _ n rfl rfl rfl ?b2 ?b3 (Nat.le_refl _) ?_)
  case b2 => rw [HI2.out]; omega
  case b3 => unfold maxLen; omega
  intro wm hown hgrow
  have HF : Hid (Bnds wm w4.heap.size (.slice (some ⟨w4.heap.size, 0, none⟩) 0 n) 0 vs ks z2) := Lib.hid ⟨[], hown, rfl, rfl, BndAt.nil _ _ _⟩
  have HB : Hid (Kept [] w4 wm) := Lib.hid ((Kept.refl _ _).grown hgrow (by simp))
  clear hown hgrow
  obtain ⟨B, hB⟩ : ∃ B, w4.heap.size = B := ⟨_, rfl⟩
  rw [hB] at HF ⊢
  have HBB := Lib.hid hB; clear hB
  go_wp2_with fail
  go_loopw [16, 17] (fun v i wr => ∃ m : Nat, m ≤ n ∧ i = .int .i64 m ∧ Hid (Bnds wr B v m vs ks z2) ∧ Kept [] w4 wr) (fun _ i _ => n - (intOf i).toNat)
  case atStart => exact ⟨0, Nat.zero_le _, rfl, HF, HB.out⟩
  case round =>
    clear HF HB
    obtain ⟨m, hm, rfl, HBN, hb⟩ := hrel
    obtain ⟨ys, hf, hln, hyv, hbnd⟩ := HBN.out
    clear HBN
    have HB := Lib.hid hb; clear hb
    obtain ⟨va, vc, hv, -⟩ := hf.slice
    rw [hln] at hv
    subst hv
    have HLN := Lib.hid hln; clear hln
    have HF := Lib.hid hf; clear hf
    have HYV := Lib.hid hyv; clear hyv
    have HBD := Lib.hid hbnd; clear hbnd
    have KW := Lib.hid (K4.out.trans HB.out)
    obtain ⟨wo, rfl⟩ : ∃ wo : World, wo = wr := ⟨_, rfl⟩
    by_cases hlt : m < n
    · obtain ⟨b, o, s, hs, rfl, hb0, c0⟩ := (R0.out.kept0 KW.out).row m (by omega)
      obtain ⟨b1, o1, t, ht, rfl, hb1, c1⟩ := (R1.out.kept0 KW.out).row m (by omega)
      obtain ⟨b2, o2, r, ra, rl, rc, hr, rfl, hb2, c2, hrz⟩ := (W2.out.kept0 KW.out).row m (by omega)
      obtain ⟨b', o', _, -, hx, hb0', -⟩ := R0.out.row m (by omega)
      obtain ⟨rfl, rfl⟩ : b = b' ∧ o = o' := by simpa using hx
      obtain ⟨b', o', _, -, hx', hb1', -⟩ := R1.out.row m (by omega)
      obtain ⟨rfl, rfl⟩ : b1 = b' ∧ o1 = o' := by simpa using hx'
      obtain ⟨b', o', _, _, _, _, -, hx'', hb2', -, -⟩ := W2.out.row m (by omega)
      obtain ⟨rfl, rfl⟩ : b2 = b' ∧ o2 = o' := by simpa using hx''
      clear hx hx' hx'' hb0 hb1 hb2
      have HVS := Lib.hid hs; clear hs
      have HKS := Lib.hid ht; clear ht
      have HRZ := Lib.hid hrz; clear hrz
      have HRL : Hid (rl ≤ 1048576) := Lib.hid (by have h1 := HRW.out r (List.mem_of_getElem? hr); have h2 := HRZ.out.len; omega)
      have HAD : Hid (adjC z2 m = r.map nz) := Lib.hid (adjC_at hr)
      clear hr
      have hgs : B ≤ wo.heap.size := by rw [← HBB.out]; exact HB.out.size
      have HGS := Lib.hid hgs; clear hgs
      have OWN : Hid (∀ g ∈ (Value.slice va m vc).ownBlock.toList, B ≤ g) := Lib.hid (fun g hg => (OwnR.blk HF.out (by simpa using hg)).1)
      have hwb : w.heap.size ≤ B := by have := HBB.out; have := K4.out.size; omega
      have BNE : Hid (b ∉ (Value.slice va m vc).ownBlock.toList) := Lib.hid (fun hm => by have := OWN.out _ hm; omega)
      have BNE1 : Hid (b1 ∉ (Value.slice va m vc).ownBlock.toList) := Lib.hid (fun hm => by have := OWN.out _ hm; omega)
      have BNE2 : Hid (b2 ∉ (Value.slice va m vc).ownBlock.toList) := Lib.hid (fun hm => by have := OWN.out _ hm; omega)
      clear hb0' hb1' hb2' hwb
      have HO : Hid (∀ W o, Kept [] wo W → OwnR 44 12 encY (W.alloc o) B (.slice va m vc) ys) := Lib.hid (fun W o k => HF.out.kept0 (k.alloc o))
      have HBL : Hid (∀ W o, Kept [] wo W → B ≤ (World.alloc W o).heap.size) := Lib.hid (fun W o k => by
        have h3 : wo.heap.size ≤ W.heap.size := k.size
        have h4 : (W.alloc o).heap.size = W.heap.size + 1 := by simp
        have := HGS.out
        omega)
      have H3 : Hid (ys.length + 1 ≤ maxLen) := Lib.hid (by rw [HLN.out]; unfold maxLen; omega)
      have H4 : Hid ((ys.length + 1) * 168 ≤ 140737488355328) := Lib.hid (by rw [HLN.out]; omega)
      have C0 := Lib.hid c0; clear c0
      have C1 := Lib.hid c1; clear c1
      have C2 := Lib.hid c2; clear c2
      have i1 : (0 : Int) ≤ (m : Int) := by omega
      have i2 : (m : Int) < (n : Int) := by omega
      have i3 : (m : Int) < (len0 : Int) := by omega
      have i4 : (m : Int) < (len1 : Int) := by omega
      have i5 : (m : Int) < (len2 : Int) := by omega
      have kd : Kept [] wo wo.drew := (Kept.refl _ _).drew
      have kr := Kept.refl (Value.slice va m vc).ownBlock.toList wo
      go_wp2_with fail
      go_region_held3 (fun w' => w'.cell? ⟨b, o + m, none⟩ = some (.string s) ∧ w'.cell? ⟨b1, o1 + m, none⟩ = some (.string t) ∧ w'.cell? ⟨b2, o2 + m, none⟩ = some (.slice ra rl rc) ∧ Kept (Value.slice va m vc).ownBlock.toList wo w')
        ((try go_split_ands; refine (fun h : Kept (Value.slice va m vc).ownBlock.toList wo _ => ⟨h.cell C0.out BNE.out, h.cell C1.out BNE1.out, h.cell C2.out BNE2.out, h⟩) ?_; first | assumption | exact Kept.drew (by assumption) | exact Kept.mono k5 (by simp) | exact Kept.mono k6 (by simp) | exact Kept.trans (Kept.mono (Kept.alloc k6 _) (by simp)) hk7 | exact Kept.mono (Kept.alloc k6 _) (by simp)))
        (first
          | (go_at_call 10; refine (toFodder_any _ _ _ _ r (HRZ.out.kept0 kd) HRL.out).mono ?_; rintro e x5 ⟨v5, l5, rfl, hf5, hc5, k5'⟩; have k5 := kd.trans k5'; obtain ⟨fa, fc, hv5, -⟩ := hf5.slice; obtain ⟨fn, hfn⟩ : ∃ n, l5.length = n := ⟨_, rfl⟩; rw [hfn] at hv5; subst hv5; clear hfn; dsimp only)
          | (go_at_call 9; refine (importBind_any _ s t fa fn fc).mono ?_; rintro e x6 ⟨x, rfl, him, k6'⟩; have k6 := k5.trans k6')
          | ((refine step_push (T := 44) (c := 12) (enc := encY) (by rfl) _ _ 31 (by rfl) B i0 _ 168 Tryf.underlying31 HI.out HI0.out HI1.out HI2.out rfl (by decide) encY_len encY_one (.slice va m vc) ys (by rfl) (HO.out x6 _ k6) x6.heap.size ⟨(fa, fn, fc), x, s⟩ 1 _ (by rfl) (heap_alloc_new x6 _) rfl H3.out H4.out (HBL.out x6 _ k6) ?_; intro v7 x7 hown7 hk7)))
      all_goals
        have hkn : Kept [] w4 x7 := ((HB.out.trans k6).alloc _).then hk7 (fun g hg => Or.inr (by rw [HBB.out]; exact OWN.out g hg))
        have HKN := Lib.hid hkn; clear hkn
        have HN : Hid (Bnds x7 B v7 (m + 1) vs ks z2) := Lib.hid ⟨_, hown7, by rw [List.length_append, HLN.out]; rfl, by rw [List.map_append, HYV.out, take_snoc HVS.out]; rfl, (HBD.out.kept0 (k6.alloc _)).snoc hk7 (HO.out x6 _ k6).typ (by rw [HLN.out]; exact HKS.out) (him.kept0 ((Kept.refl [] x6).alloc _)) (by rw [HLN.out]; exact ⟨_, l5, hf5.kept (k6'.alloc _) (by simp), by rw [hc5, HAD.out]⟩)⟩
        clear hown7 hk7 hf5 hc5 him
        go_wp2_with fail
        exact ⟨⟨m + 1, by omega, by go_num, HN, HKN.out⟩, by simp [intOf]; omega⟩
    · obtain rfl : m = n := by omega
      go_wp2_with fail
      refine (toFodder_any _ _ _ _ z3 (W3.out.kept0 KW.out) (by omega)).mono ?_
      rintro e x7 ⟨fv, l7, rfl, hf7, hc7, k7⟩
      obtain ⟨ga, gc, hv, -⟩ := hf7.slice
      obtain ⟨gn, hgn⟩ : ∃ n, l7.length = n := ⟨_, rfl⟩
      have HLG : Hid (gn ≤ 65536) := Lib.hid <| by have := congrArg List.length hc7; rw [codes, List.length_map, List.length_map, HL3.out, hgn] at this; omega
      rw [hgn] at hv
      subst hv
      have HF7 := Lib.hid hf7; clear hf7
      have HC7 := Lib.hid hc7; clear hc7
      have HGN := Lib.hid hgn; clear hgn
      have K7 := Lib.hid k7; clear k7
      go_wp2_with fail
      refine (extractZ_any wo x7 va m vc ys ks (vs.take m) z2 ga gn gc l7 (z3.map nz) K7.out (OwnR.rdy HF.out) HBD.out HYV.out (by omega) (by omega) (fun i => adj_bound HRW.out i) HF7.out HC7.out (by rw [HGN.out]; exact HLG.out)).mono ?_
      rintro e w8 ⟨⟨ta, tn, tc⟩, xs, rfl, htn, hrx, hxl, hout, k8⟩
      dsimp only at htn
      subst htn
      have HRX := Lib.hid hrx; clear hrx
      have HXL := Lib.hid hxl; clear hxl
      have HOUT := Lib.hid hout; clear hout
      have K8 := Lib.hid (KW.out.trans k8); clear k8 K7 HF7 HC7 HGN HLG HF HYV HBD HB KW
      unfold Trip.val
      dsimp only
      obtain ⟨xb, xo, ⟨⟨za, zn, zc⟩, zk, ⟨ya, yn, yc⟩, zi, zv⟩, hx, rfl, hxb, hcc⟩ := HRX.out.row 0 (by omega)
      obtain ⟨-, -, o3, -⟩ := HOUT.out 0 _ hx
      dsimp only at o3
      have e0 := hcc 0 (by omega)
      have e1 := hcc 1 (by omega)
      have e2 := hcc 2 (by omega)
      have e3 := hcc 3 (by omega)
      have e4 := hcc 4 (by omega)
      have e5 := hcc 5 (by omega)
      have e6 := hcc 6 (by omega)
      have e7 := hcc 7 (by omega)
      have e8 := hcc 8 (by omega)
      have e9 := hcc 9 (by omega)
      have e10 := hcc 10 (by omega)
      have e11 := hcc 11 (by omega)
      have e12 := hcc 12 (by omega)
      have e13 := hcc 13 (by omega)
      clear hcc hx
      simp only [encX, Trip.val, Nat.zero_mul, Nat.add_zero, List.getElem?_cons_succ, List.getElem?_cons_zero] at e0 e1 e2 e3 e4 e5 e6 e7 e8 e9 e10 e11 e12 e13
      have E0 := Lib.hid e0
      have E1 := Lib.hid e1
      have E2 := Lib.hid e2
      have E3 := Lib.hid e3
      have E4 := Lib.hid e4
      have E5 := Lib.hid e5
      have E6 := Lib.hid e6
      have E7 := Lib.hid e7
      have E8 := Lib.hid e8
      have E9 := Lib.hid e9
      have E10 := Lib.hid e10
      have E11 := Lib.hid e11
      have E12 := Lib.hid e12
      have E13 := Lib.hid e13
      clear e0 e1 e2 e3 e4 e5 e6 e7 e8 e9 e10 e11 e12 e13
      obtain ⟨b2, o2, r, ra, rl, rc, hr, rfl, -, c2, hrz⟩ := (W2.out.kept0 K8.out).row 0 (by omega)
      obtain ⟨_, lv, h1, h2⟩ := o3
      have hv0 : vfC z2 0 = r.map nz := by unfold vfC; rw [if_pos rfl, adjC_at hr]
      rw [hv0] at h2
      have HRZ := Lib.hid hrz; clear hrz
      have HRL : Hid (rl ≤ 1048576) := Lib.hid (by have h1 := HRW.out r (List.mem_of_getElem? hr); have h2 := HRZ.out.len; omega)
      simp only [Nat.add_zero] at c2
      have C2 := Lib.hid c2; clear c2 hr hv0
      have HV1 := Lib.hid h1; clear h1
      have HV2 := Lib.hid h2; clear h2
      have j0 : (0 : Int) < (tn : Int) := by omega
      have jn0 : 0 < tn := by omega
      have jn1 : 0 < len2 := by omega
      have jn2 : tn ≠ 0 := by omega
      have jn3 : len2 ≠ 0 := by omega
      have j1 : (0 : Int) < (len2 : Int) := by omega
      have kr := Kept.refl [] w8
      go_wp2_with fail
      go_region_held3 (fun w' => w'.cell? ⟨xb, xo, none⟩ = some (.slice za zn zc) ∧ w'.cell? ⟨xb, xo + 1, none⟩ = some (.string zk) ∧ w'.cell? ⟨xb, xo + 2, none⟩ = some (.slice ya yn yc) ∧ w'.cell? ⟨xb, xo + 3, none⟩ = some (.iface 60 (.pointer (some ⟨zi, 0, none⟩))) ∧ w'.cell? ⟨xb, xo + 4, none⟩ = some (.slice none 0 0) ∧ w'.cell? ⟨xb, xo + 5, none⟩ = some (.string zv) ∧ w'.cell? ⟨xb, xo + 6, none⟩ = some (.slice none 0 0) ∧ w'.cell? ⟨xb, xo + 7, none⟩ = some (.pointer none) ∧ w'.cell? ⟨xb, xo + 8, none⟩ = some (.pointer none) ∧ w'.cell? ⟨xb, xo + 9, none⟩ = some (.string ⟨#[]⟩) ∧ w'.cell? ⟨xb, xo + 10, none⟩ = some (.int .i64 0) ∧ w'.cell? ⟨xb, xo + 11, none⟩ = some (.int .i64 0) ∧ w'.cell? ⟨xb, xo + 12, none⟩ = some (.int .i64 0) ∧ w'.cell? ⟨xb, xo + 13, none⟩ = some (.int .i64 0) ∧ w'.cell? ⟨b2, o2, none⟩ = some (.slice ra rl rc) ∧ Kept [] w8 w')
        ((try go_split_ands; refine (fun h : Kept [] w8 _ => ⟨h.cell E0.out (by simp), h.cell E1.out (by simp), h.cell E2.out (by simp), h.cell E3.out (by simp), h.cell E4.out (by simp), h.cell E5.out (by simp), h.cell E6.out (by simp), h.cell E7.out (by simp), h.cell E8.out (by simp), h.cell E9.out (by simp), h.cell E10.out (by simp), h.cell E11.out (by simp), h.cell E12.out (by simp), h.cell E13.out (by simp), h.cell C2.out (by simp), h⟩) ?_; first | assumption | exact Kept.trans (by assumption) k2 | exact Kept.drewN (Kept.trans (by assumption) k2) _ | exact Kept.drewN (by assumption) _ | exact Kept.trans (Kept.drew (by assumption)) k2 | exact Kept.drew (by assumption)))
        (first
        | (go_at_call 13; refine (elemVarF_any _ _ _ _ _ _ _ _ _ _ _ _ _ _ _).mono ?_; rintro e x4 ⟨rfl, k2⟩; dsimp only)
        | (go_at_call 10; try go_split_ands; refine (toFodder_any _ _ _ _ r (HRZ.out.kept0 (by assumption)) HRL.out).mono ?_; rintro e x5 ⟨v5, l5, rfl, hf5, hc5, k2⟩; obtain ⟨fa, fc, hv5, -⟩ := hf5.slice; obtain ⟨fn, hfn⟩ : ∃ n, l5.length = n := ⟨_, rfl⟩; rw [hfn] at hv5; subst hv5; clear hfn; dsimp only)
        | (go_at_call 12; try go_split_ands; refine (same_any _ _ _ _ _ lv _ _ _ _ l5 (HV1.out.kept (by assumption) (by simp)) hf5 (by rw [HV2.out, hc5])).mono ?_; rintro e x6 ⟨rfl, mm, rfl⟩; dsimp only))
      all_goals
        try go_split_ands
        have kq : Kept [] w8 (x5.drewN mm) := by assumption
        obtain ⟨w9, hw9⟩ : ∃ w9, x5.drewN mm = w9 := ⟨_, rfl⟩
        rw [hw9] at kq ⊢
        have K9 := Lib.hid kq; clear kq k2 kr hw9 hf5 hc5
        clear E0 E1 E2 E3 E4 E5 E6 E7 E8 E9 E10 E11 E12 E13 C2 HV1 HV2 HRZ HRL
        go_wp2_with fail
        go_loopw [19] (fun i wr => ∃ k : Nat, k ≤ tn ∧ i = .int .i64 k ∧ Kept [] w9 wr) (fun i _ => tn - (intOf i).toNat)
        case atStart => exact ⟨0, Nat.zero_le _, rfl, Kept.refl _ _⟩
        case round =>
        obtain ⟨k, hk, rfl, hkw⟩ := hrel
        have HKW := Lib.hid hkw; clear hkw
        by_cases hlt : k < tn
        · skip
          obtain ⟨b', o', ⟨⟨ja, jn, jc⟩, key, ⟨fa', fn', fc'⟩, imp, var⟩, hx, hxa, hxb, hcc⟩ := (HRX.out.kept0 (K9.out.trans HKW.out)).row k hlt
          obtain ⟨rfl, rfl⟩ : xb = b' ∧ xo = o' := by simpa using hxa
          clear hxa
          obtain ⟨o1, o2', -, o4⟩ := HOUT.out k _ hx
          dsimp only at o1 o2' o4
          have e0 := hcc 0 (by omega)
          have e1 := hcc 1 (by omega)
          have e2 := hcc 2 (by omega)
          have e3 := hcc 3 (by omega)
          have e4 := hcc 4 (by omega)
          have e5 := hcc 5 (by omega)
          have e6 := hcc 6 (by omega)
          have e7 := hcc 7 (by omega)
          have e8 := hcc 8 (by omega)
          have e9 := hcc 9 (by omega)
          have e10 := hcc 10 (by omega)
          have e11 := hcc 11 (by omega)
          have e12 := hcc 12 (by omega)
          have e13 := hcc 13 (by omega)
          clear hcc hx
          simp only [encX, Trip.val, Nat.add_zero, List.getElem?_cons_succ, List.getElem?_cons_zero] at e0 e1 e2 e3 e4 e5 e6 e7 e8 e9 e10 e11 e12 e13
          have O4 := Lib.hid o4; clear o4
          obtain ⟨wo, rfl⟩ : ∃ wo : World, wo = wr := ⟨_, rfl⟩
          obtain ⟨b0, o0, s0, hs0, rfl, -, c0⟩ := (R0.out.kept0 ((K8.out.trans K9.out).trans HKW.out)).row k (by omega)
          obtain ⟨b1, q1, s1, hs1, rfl, -, c1⟩ := (R1.out.kept0 ((K8.out.trans K9.out).trans HKW.out)).row k (by omega)
          obtain rfl : key = s1 := by rw [o1] at hs1; exact Option.some.inj hs1
          obtain rfl : var = s0 := by rw [List.getElem?_take, if_pos hlt, hs0] at o2'; exact (Option.some.inj o2').symm
          clear hs0 hs1 o1 o2'
          have j5 : (0 : Int) ≤ (k : Int) := by omega
          have j6 : (k : Int) < (tn : Int) := by omega
          have j3 : (k : Int) < (len0 : Int) := by omega
          have j4 : (k : Int) < (len1 : Int) := by omega
          go_wp2_with fail
          obtain ⟨be, hbe⟩ : ∃ be, wo.heap.size = be := ⟨_, rfl⟩
          obtain ⟨WE, hWE⟩ : ∃ WE, wo.alloc (.cells #[.slice ja jn jc, .string key, .slice fa' fn' fc', .iface 60 (.pointer (some ⟨imp, 0, none⟩)), .slice none 0 0, .string var, .slice none 0 0, .pointer none, .pointer none, .string ⟨#[]⟩, .int .i64 0, .int .i64 0, .int .i64 0, .int .i64 0] 52) = WE := ⟨_, rfl⟩
          have ke : Kept [] wo WE := hWE ▸ (Kept.refl [] _).alloc _
          have xe : WE.heap[be]? = some (.cells #[.slice ja jn jc, .string key, .slice fa' fn' fc', .iface 60 (.pointer (some ⟨imp, 0, none⟩)), .slice none 0 0, .string var, .slice none 0 0, .pointer none, .pointer none, .string ⟨#[]⟩, .int .i64 0, .int .i64 0, .int .i64 0, .int .i64 0] 52 (0, 0)) := by rw [← hWE, ← hbe]; exact heap_alloc_new _ _
          rw [hWE, hbe]
          have VA := Lib.hid (ke.cell c0 (by simp))
          have FA := Lib.hid (ke.cell c1 (by simp))
          have KE := Lib.hid (HKW.out.trans ke)
          have N0 : Hid (WE.cell? ⟨be, 0, none⟩ = some (.slice ja jn jc)) := Lib.hid (cell_of_block xe 0)
          have N1 : Hid (WE.cell? ⟨be, 1, none⟩ = some (.string key)) := Lib.hid (cell_of_block xe 1)
          have N2 : Hid (WE.cell? ⟨be, 2, none⟩ = some (.slice fa' fn' fc')) := Lib.hid (cell_of_block xe 2)
          have N3 : Hid (WE.cell? ⟨be, 3, none⟩ = some (.iface 60 (.pointer (some ⟨imp, 0, none⟩)))) := Lib.hid (cell_of_block xe 3)
          have N4 : Hid (WE.cell? ⟨be, 4, none⟩ = some (.slice none 0 0)) := Lib.hid (cell_of_block xe 4)
          have N5 : Hid (WE.cell? ⟨be, 5, none⟩ = some (.string var)) := Lib.hid (cell_of_block xe 5)
          have N6 : Hid (WE.cell? ⟨be, 6, none⟩ = some (.slice none 0 0)) := Lib.hid (cell_of_block xe 6)
          have N7 : Hid (WE.cell? ⟨be, 7, none⟩ = some (.pointer none)) := Lib.hid (cell_of_block xe 7)
          have N8 : Hid (WE.cell? ⟨be, 8, none⟩ = some (.pointer none)) := Lib.hid (cell_of_block xe 8)
          have N9 : Hid (WE.cell? ⟨be, 9, none⟩ = some (.string ⟨#[]⟩)) := Lib.hid (cell_of_block xe 9)
          have N10 : Hid (WE.cell? ⟨be, 10, none⟩ = some (.int .i64 0)) := Lib.hid (cell_of_block xe 10)
          have N11 : Hid (WE.cell? ⟨be, 11, none⟩ = some (.int .i64 0)) := Lib.hid (cell_of_block xe 11)
          have N12 : Hid (WE.cell? ⟨be, 12, none⟩ = some (.int .i64 0)) := Lib.hid (cell_of_block xe 12)
          have N13 : Hid (WE.cell? ⟨be, 13, none⟩ = some (.int .i64 0)) := Lib.hid (cell_of_block xe 13)
          clear hWE hbe ke xe c0 c1 e0 e1 e2 e3 e4 e5 e6 e7 e8 e9 e10 e11 e12 e13
          have kr := Kept.refl [] WE
          go_region_held3 (fun w' => w'.cell? ⟨be, 0, none⟩ = some (.slice ja jn jc) ∧ w'.cell? ⟨be, 1, none⟩ = some (.string key) ∧ w'.cell? ⟨be, 2, none⟩ = some (.slice fa' fn' fc') ∧ w'.cell? ⟨be, 3, none⟩ = some (.iface 60 (.pointer (some ⟨imp, 0, none⟩))) ∧ w'.cell? ⟨be, 4, none⟩ = some (.slice none 0 0) ∧ w'.cell? ⟨be, 5, none⟩ = some (.string var) ∧ w'.cell? ⟨be, 6, none⟩ = some (.slice none 0 0) ∧ w'.cell? ⟨be, 7, none⟩ = some (.pointer none) ∧ w'.cell? ⟨be, 8, none⟩ = some (.pointer none) ∧ w'.cell? ⟨be, 9, none⟩ = some (.string ⟨#[]⟩) ∧ w'.cell? ⟨be, 10, none⟩ = some (.int .i64 0) ∧ w'.cell? ⟨be, 11, none⟩ = some (.int .i64 0) ∧ w'.cell? ⟨be, 12, none⟩ = some (.int .i64 0) ∧ w'.cell? ⟨be, 13, none⟩ = some (.int .i64 0) ∧ w'.cell? ⟨b0, o0 + k, none⟩ = some (.string var) ∧ w'.cell? ⟨b1, q1 + k, none⟩ = some (.string key) ∧ Kept [] WE w')
            ((try go_split_ands; refine (fun h : Kept [] WE _ => ⟨h.cell N0.out (by simp), h.cell N1.out (by simp), h.cell N2.out (by simp), h.cell N3.out (by simp), h.cell N4.out (by simp), h.cell N5.out (by simp), h.cell N6.out (by simp), h.cell N7.out (by simp), h.cell N8.out (by simp), h.cell N9.out (by simp), h.cell N10.out (by simp), h.cell N11.out (by simp), h.cell N12.out (by simp), h.cell N13.out (by simp), h.cell VA.out (by simp), h.cell FA.out (by simp), h⟩) ?_; first | assumption | exact Kept.trans (by assumption) k2 | exact Kept.trans (Kept.drew (by assumption)) k2 | exact Kept.drew (by assumption)))
            (first
            | (go_at_call 14; refine (elemKey_any _ _ _ _ _ _ _ _ _ _ _ _ _ _ _).mono ?_; rintro e wk ⟨rfl, k2⟩; dsimp only)
            | (go_at_call 15; refine (elemVari_any _ _ _ _ _ _ _ _ _ _ _ _ _ _ _).mono ?_; rintro e wk2 ⟨rfl, k2⟩; dsimp only))
          all_goals
            try go_split_ands
            have kq : Kept [] WE wk2 := by assumption
            have KQ := Lib.hid kq; clear kq k2 kr
            go_wp2_with fail
            refine (elemAdj_any _ _ _ _ _ _ _ _ _ _ _ _ _ _ _).mono ?_
            rintro e w10 ⟨rfl, k10⟩
            have K10 := Lib.hid (KQ.out.trans k10); clear k10
            have KF := Lib.hid (K9.out.trans (KE.out.trans K10.out))
            have KG := Lib.hid (KE.out.trans K10.out)
            clear K10 KQ KE N0 N1 N2 N3 N4 N5 N6 N7 N8 N9 N10 N11 N12 N13 VA FA
            dsimp only
            obtain ⟨_, lv, h1, h2⟩ := O4.out
            have hcl : cleanC (codes lv) = true := by
              rw [h2]
              unfold adC
              split <;> exact ens_clean _
            obtain ⟨q, x, hq1, hq2, hq3⟩ := cleanC_last hcl
            have hq4 : lv.length = q + 1 := by simpa [codes] using hq1
            obtain ⟨ja', jc', hv, -, -, hg⟩ := h1.slice
            obtain ⟨g, rfl, -, -⟩ := hg 0 (by omega)
            have hja : ja = some ⟨g, 0, none⟩ := by
              unfold Trip.val at hv
              injection hv
            have hjn : jn = q + 1 := by
              have h3 : jn = lv.length := h1.len
              omega
            subst hja hjn
            obtain ⟨y, hy, -, y1, -, -⟩ := (h1.kept KF.out (by simp)).cells q (by omega)
            have hyk : y.k = x.k := by
              have h4 : (codes lv)[q]? = some y.snap := by rw [codes, List.getElem?_map, hy]; rfl
              rw [hq2] at h4
              rw [Option.some.inj h4]
              rfl
            obtain ⟨kk', hkk⟩ : ∃ c, x.k = c := ⟨_, rfl⟩
            rw [hyk, hkk] at y1
            have hk1 : ¬ kk' = 1 := by rw [← hkk]; exact hq3
            have hk1b : (kk' == 1) = false := by simpa using hk1
            have HL1 := Lib.hid h1; clear h1
            have HL2' := Lib.hid h2; clear h2
            have HQ4 := Lib.hid hq4; clear hq4
            clear hv hg hy hyk hq1 hq2 hq3 hkk hcl O4
            have hq5 : q + 1 ≤ 131073 := by
              have h6 := congrArg List.length HL2'.out
              have h7 : (adC z2 tn (z3.map nz) k).length ≤ 65537 := adC_len HRW.out (by rw [List.length_map, HL3.out]; omega) _ _
              rw [codes, List.length_map, HQ4.out] at h6
              omega
            by_cases hl : k + 1 < tn
            · have hl1 : ((k : Int) < (tn : Int) - 1) := by omega
              have hl2 : (k : Int) + 1 < (tn : Int) := by omega
              obtain ⟨b', o', r', ra', rl', rc', hr', hxa, -, d2, hrz'⟩ := (W2.out.kept0 (K8.out.trans KF.out)).row (k + 1) (by omega)
              obtain ⟨rfl, rfl⟩ : b2 = b' ∧ o2 = o' := by simpa using hxa
              clear hxa
              have HAD : Hid (adjC z2 (k + 1) = r'.map nz) := Lib.hid (adjC_at hr')
              have HRZ := Lib.hid hrz'; clear hrz'
              have HRL : Hid (rl' ≤ 1048576) := Lib.hid (by have h1 := HRW.out r' (List.mem_of_getElem? hr'); have h2 := HRZ.out.len; omega)
              clear hr'
              have jl : (k : Int) + 1 < (len2 : Int) := by omega
              go_wp2_with fail
              refine (toFodder_any _ _ _ _ r' HRZ.out HRL.out).mono ?_
              rintro e x11 ⟨v5, l5, rfl, hf5, hc5, k11⟩
              obtain ⟨sa, sc, hv5, -⟩ := hf5.slice
              obtain ⟨sn, hsn⟩ : ∃ n, l5.length = n := ⟨_, rfl⟩
              rw [hsn] at hv5
              subst hv5
              clear hsn d2
              have KF11 := Lib.hid (KF.out.trans k11)
              have KG11 := Lib.hid (KG.out.trans k11); clear k11
              have HF5 := Lib.hid hf5; clear hf5
              have HC5 := Lib.hid hc5; clear hc5
              obtain ⟨b', o', ⟨⟨pa, pn, pc⟩, pk, ⟨ua, un, uc⟩, pi, pv⟩, hx, hxa, -, hcc⟩ := (HRX.out.kept0 KF11.out).row (k + 1) hl
              obtain ⟨rfl, rfl⟩ : xb = b' ∧ xo = o' := by simpa using hxa
              clear hxa
              obtain ⟨_, lb, h1, h2⟩ := (HOUT.out (k + 1) _ hx).2.2.1
              have HB1 := Lib.hid h1; clear h1
              have HB2 := Lib.hid h2; clear h2 hx
              have e0 := hcc 0 (by omega)
              have e1 := hcc 1 (by omega)
              have e2 := hcc 2 (by omega)
              have e3 := hcc 3 (by omega)
              have e4 := hcc 4 (by omega)
              have e5 := hcc 5 (by omega)
              have e6 := hcc 6 (by omega)
              have e7 := hcc 7 (by omega)
              have e8 := hcc 8 (by omega)
              have e9 := hcc 9 (by omega)
              have e10 := hcc 10 (by omega)
              have e11 := hcc 11 (by omega)
              have e12 := hcc 12 (by omega)
              have e13 := hcc 13 (by omega)
              clear hcc
              simp only [encX, Trip.val, Nat.add_zero, List.getElem?_cons_succ, List.getElem?_cons_zero] at e0 e1 e2 e3 e4 e5 e6 e7 e8 e9 e10 e11 e12 e13
              go_wp2_with fail
              refine (elemVarF_any _ _ _ _ _ _ _ _ _ _ _ _ _ _ _).mono ?_
              rintro e x12 ⟨rfl, k12⟩
              clear e0 e1 e2 e3 e4 e5 e6 e7 e8 e9 e10 e11 e12 e13
              have Q0 := Lib.hid k12; clear k12
              have hA : codes lv = ens (splitS (r'.map nz)).1 := by rw [HL2'.out]; unfold adC; rw [if_pos hl, HAD.out]
              have hB : codes lb = (splitS (r'.map nz)).2.1 := by rw [HB2.out]; unfold vfC; rw [if_neg (by omega), HAD.out]
              have HA := Lib.hid hA; clear hA
              have HBq := Lib.hid hB; clear hB
              dsimp only
              go_wp2_with fail
              refine (countI_any _ _ _ lv (HL1.out.kept (KF11.out.trans Q0.out) (by simp))).mono ?_
              rintro e y0 ⟨rfl, kq⟩
              have Q1 := Lib.hid (Q0.out.trans kq); clear kq Q0
              obtain ⟨cA, hcA⟩ : ∃ c, wrap64 (sumOf gI (codes lv)) = c := ⟨_, rfl⟩
              rw [hcA]
              have HCA := Lib.hid hcA; clear hcA
              go_wp2_with fail
              refine (countI_any _ _ _ lb (HB1.out.kept (KF11.out.trans Q1.out) (by simp))).mono ?_
              rintro e y1 ⟨rfl, kq⟩
              have Q2 := Lib.hid (Q1.out.trans kq); clear kq Q1
              obtain ⟨cB, hcB⟩ : ∃ c, wrap64 (sumOf gI (codes lb)) = c := ⟨_, rfl⟩
              rw [hcB]
              have HCB := Lib.hid hcB; clear hcB
              go_wp2_with fail
              refine (countI_any _ _ _ l5 (HF5.out.kept Q2.out (by simp))).mono ?_
              rintro e y2 ⟨rfl, kq⟩
              have Q3 := Lib.hid (Q2.out.trans kq); clear kq Q2
              rw [← law_sum goodI HA.out HBq.out HC5.out (nz_c r'), HCA.out, HCB.out]
              clear HCA HCB
              go_wp2_with fail
              refine (sumC_any _ _ _ lv (HL1.out.kept (KF11.out.trans Q3.out) (by simp))).mono ?_
              rintro e y3 ⟨rfl, kq⟩
              have Q4 := Lib.hid (Q3.out.trans kq); clear kq Q3
              obtain ⟨cA, hcA⟩ : ∃ c, wrap64 (sumOf gC (codes lv)) = c := ⟨_, rfl⟩
              rw [hcA]
              have HCA := Lib.hid hcA; clear hcA
              go_wp2_with fail
              refine (sumC_any _ _ _ lb (HB1.out.kept (KF11.out.trans Q4.out) (by simp))).mono ?_
              rintro e y4 ⟨rfl, kq⟩
              have Q5 := Lib.hid (Q4.out.trans kq); clear kq Q4
              obtain ⟨cB, hcB⟩ : ∃ c, wrap64 (sumOf gC (codes lb)) = c := ⟨_, rfl⟩
              rw [hcB]
              have HCB := Lib.hid hcB; clear hcB
              go_wp2_with fail
              refine (sumC_any _ _ _ l5 (HF5.out.kept Q5.out (by simp))).mono ?_
              rintro e y5 ⟨rfl, kq⟩
              have Q6 := Lib.hid (Q5.out.trans kq); clear kq Q5
              rw [← law_sum goodC HA.out HBq.out HC5.out (nz_c r'), HCA.out, HCB.out]
              clear HCA HCB
              go_wp2_with fail
              refine (sumB_any _ _ _ lv (HL1.out.kept (KF11.out.trans Q6.out) (by simp))).mono ?_
              rintro e y6 ⟨rfl, kq⟩
              have Q7 := Lib.hid (Q6.out.trans kq); clear kq Q6
              obtain ⟨cA, hcA⟩ : ∃ c, wrap64 (sumOf gB (codes lv)) = c := ⟨_, rfl⟩
              rw [hcA]
              have HCA := Lib.hid hcA; clear hcA
              go_wp2_with fail
              refine (sumB_any _ _ _ lb (HB1.out.kept (KF11.out.trans Q7.out) (by simp))).mono ?_
              rintro e y7 ⟨rfl, kq⟩
              have Q8 := Lib.hid (Q7.out.trans kq); clear kq Q7
              obtain ⟨cB, hcB⟩ : ∃ c, wrap64 (sumOf gB (codes lb)) = c := ⟨_, rfl⟩
              rw [hcB]
              have HCB := Lib.hid hcB; clear hcB
              go_wp2_with fail
              refine (sumB_any _ _ _ l5 (HF5.out.kept Q8.out (by simp))).mono ?_
              rintro e y8 ⟨rfl, kq⟩
              have Q9 := Lib.hid (Q8.out.trans kq); clear kq Q8
              rw [← law_sum goodB HA.out HBq.out HC5.out (nz_c r'), HCA.out, HCB.out]
              clear HCA HCB
              go_wp2_with fail
              exact ⟨⟨k + 1, by omega, by go_num, KG11.out.trans Q9.out⟩, by simp [intOf]; omega⟩
            · have hl1 : ¬ ((k : Int) < (tn : Int) - 1) := by omega
              go_wp2_with fail
              refine (toFodder_any _ _ _ _ z3 (W3.out.kept0 (K8.out.trans KF.out)) (by omega)).mono ?_
              rintro e x11 ⟨v5, l5, rfl, hf5, hc5, k11⟩
              obtain ⟨sa, sc, hv5, -, hsm, hsg⟩ := hf5.slice
              obtain ⟨sn, hsn⟩ : ∃ n, l5.length = n := ⟨_, rfl⟩
              rw [hsn] at hv5
              subst hv5
              have KF11 := Lib.hid (KF.out.trans k11)
              have KG11 := Lib.hid (KG.out.trans k11); clear k11
              have HF5 := Lib.hid hf5; clear hf5
              have HC5 := Lib.hid hc5; clear hc5
              have HSN := Lib.hid hsn; clear hsn
              have HSG := Lib.hid hsg; clear hsg
              have HE : Hid (codes lv = ens (codes l5)) := Lib.hid (by rw [HL2'.out, HC5.out]; unfold adC; rw [if_neg hl])
              have hsq : sn ≤ q + 1 := by
                have h6 := congrArg List.length HE.out
                have h7 := ens_ge (codes l5)
                rw [codes, List.length_map, HQ4.out] at h6
                rw [codes, List.length_map, HSN.out] at h7
                rw [codes] at h6
                omega
              have hsq' : ¬ ((q : Int) + 1 < (sn : Int)) := by omega
              dsimp only
              go_wp2_with fail
              go_loopw [25] (fun i wr => ∃ j : Nat, j ≤ sn ∧ i = .int .i64 j ∧ Kept [] x11 wr) (fun i _ => sn - (intOf i).toNat)
              case atStart => exact ⟨0, Nat.zero_le _, rfl, Kept.refl _ _⟩
              case round =>
              obtain ⟨j, hj, rfl, hkj⟩ := hrel
              have KJ := Lib.hid hkj; clear hkj
              by_cases hlj : j < sn
              · as_aux_lemma =>
                  obtain ⟨g2, rfl, -, -⟩ := HSG.out j (by rw [HSN.out]; exact hlj)
                  obtain ⟨⟨ca, cl, cc, zk', zb', zi'⟩, hz, c0, c1, c2, c3⟩ := (HL1.out.kept (KF11.out.trans KJ.out) (by simp)).cells j (by rw [HQ4.out]; omega)
                  obtain ⟨⟨ca2, cl2, cc2, zk2, zb2, zi2⟩, hz2, d0, d1, d2, d3⟩ := (HF5.out.kept KJ.out (by simp)).cells j (by rw [HSN.out]; exact hlj)
                  dsimp only at c0 c1 c2 c3 d0 d1 d2 d3
                  have heq : (codes lv)[j]? = (codes l5)[j]? := by rw [HE.out, ens_at _ _ (by rw [codes, List.length_map, HSN.out]; exact hlj)]
                  rw [List.getElem?_map, List.getElem?_map, hz, hz2] at heq
                  simp only [Option.map_some, FE.snap, Option.some.injEq, ZE.mk.injEq] at heq
                  obtain ⟨rfl, rfl, rfl, hcl⟩ := heq
                  obtain rfl : cl = cl2 := by omega
                  clear hcl hz hz2
                  have i1 : (0 : Int) ≤ (j : Int) := by omega
                  have i2 : (j : Int) < (sn : Int) := by omega
                  have i3 : (j : Int) < (q : Int) + 1 := by omega
                  have i4 : (j : Int) < ((q + 1 : Nat) : Int) := by omega
                  go_wp2_with fail
                  go_quiet (fail)
                  go_wp2_with fail
                  exact ⟨⟨j + 1, by omega, by go_num, KJ.out.drewN _⟩, by simp [intOf]; omega⟩
              · obtain rfl : j = sn := by omega
                go_wp2_with fail
                refine (sumC_any _ _ _ lv (HL1.out.kept (KF11.out.trans KJ.out) (by simp))).mono ?_
                rintro e y1 ⟨rfl, kq⟩
                have Q1 := Lib.hid (KJ.out.trans kq); clear kq KJ
                obtain ⟨cA, hcA⟩ : ∃ c, wrap64 (sumOf gC (codes lv)) = c := ⟨_, rfl⟩
                rw [hcA]
                have HCA := Lib.hid hcA; clear hcA
                go_wp2_with fail
                refine (sumC_any _ _ _ l5 (HF5.out.kept Q1.out (by simp))).mono ?_
                rintro e y2 ⟨rfl, kq⟩
                have Q2 := Lib.hid (Q1.out.trans kq); clear kq Q1
                rw [show wrap64 (sumOf gC (codes l5)) = cA by rw [← HCA.out, HE.out, ens_sum goodC]]
                go_wp2_with fail
                exact ⟨⟨k + 1, by omega, by go_num, KG11.out.trans Q2.out⟩, by simp [intOf]; omega⟩
        · obtain rfl : k = tn := by omega
          go_wp2_with fail
          go_ret
          exact ⟨rfl, ((K8.out.trans K9.out).trans HKW.out).below (Nat.le_refl _) (by simp)⟩
end fnExtractImportElemsSplitConserves
end Go.Proofs.YtddcpnhpjgeldaaFmt
