/- The walk of the law FnExtractImportElemsEmptyVarFodderExact: it returns true at every input, and writes nothing that was there. -/
import Derived.Test.YtddcpnhpjgeldaaFmtFW0
namespace Go.Proofs.YtddcpnhpjgeldaaFmt
attribute [local go_sem ↓] Go.wp_at_zero Go.wp_at_succ
open Go.ChangeShapes Go.WideShapes Go.ChangeAt Go.RowKit

namespace fnExtractImportElemsEmptyVarFodderExact
set_option maxRecDepth 100000 in
set_option maxHeartbeats 16000000 in
theorem walk (a0 : Option Addr) (len0 cap0 : Nat) (z0 : List ByteArray) (a1 : Option Addr) (len1 cap1 : Nat) (z1 : List ByteArray) (a2 : Option Addr) (len2 cap2 : Nat) (z2 : List ZE) (w : World) (w0 : IsStrs w a0 len0 cap0 z0) (w1 : IsStrs w a1 len1 cap1 z1) (w2 : RdZ w a2 len2 cap2 z2) :
    Calls Tryf.prog 4 #[.slice a0 len0 cap0, .slice a1 len1 cap1, .slice a2 len2 cap2] w fun e w' => e = .returned (.bool true) ∧ Below w.heap.size w w' := by
  obtain ⟨vs, hvs⟩ : ∃ vs, z0.take len0 = vs := ⟨_, rfl⟩
  obtain ⟨ks, hks⟩ : ∃ ks, z1.take len1 = ks := ⟨_, rfl⟩
  obtain ⟨i0, hi, hz0, hz1, hz2⟩ := info_parts Tryf.infoLB
  have HI := Lib.hid hi; clear hi
  have HI0 := Lib.hid hz0; clear hz0
  have HI1 := Lib.hid hz1; clear hz1
  have HI2 := Lib.hid hz2; clear hz2
  obtain ⟨le0, top0, -, -, -⟩ := w0.open
  obtain ⟨le1, top1, -, -, -⟩ := w1.open
  have le2 := w2.le
  have top2 := w2.top
  have hm2 : len2 ≤ maxLen := Nat.le_trans le2 top2
  have HM2 := Lib.hid hm2; clear hm2
  unfold maxLen at top0 top1 top2
  have R0 := Lib.hid w0.rdb
  have W0 := Lib.hid w0; clear w0
  have R1 := Lib.hid w1.rdb
  have W1 := Lib.hid w1; clear w1
  have hl2 := w2.len
  have HL2 := Lib.hid hl2; clear hl2
  have W2 := Lib.hid w2; clear w2
  go_enter Tryf.func4, Tryf.ntmps4
  go_wp2_with fail
  refine (zzB_FnExtractImportElemsEmptyVarFodderExact _ _ _ _ z0 _ _ _ z1 _ _ _ W0.out W1.out HM2.out).mono ?_
  rintro e w1 ⟨b, rfl, k1⟩
  have K1 := Lib.hid k1; clear k1
  cases b
  · go_wp2_with fail
    go_ret
    exact ⟨rfl, K1.out.below (Nat.le_refl _) (by simp)⟩
  by_cases g0 : 65536 < len0
  · go_wp2_with fail
    go_ret
    exact ⟨rfl, K1.out.below (Nat.le_refl _) (by simp)⟩
  by_cases g1 : 65536 < len1
  · go_wp2_with fail
    go_ret
    exact ⟨rfl, K1.out.below (Nat.le_refl _) (by simp)⟩
  by_cases g2 : 65536 < len2
  · go_wp2_with fail
    go_ret
    exact ⟨rfl, K1.out.below (Nat.le_refl _) (by simp)⟩
  go_wp2_with fail
  refine (strBytes_any _ _ _ _ z0 (K1.out.strs W0.out (by simp))).mono ?_
  rintro e w2 ⟨n0, b0, rfl, k2⟩
  have K2 := Lib.hid (K1.out.trans k2); clear k2 K1
  go_wp2_with fail
  refine (strBytes_any _ _ _ _ z1 (K2.out.strs W1.out (by simp))).mono ?_
  rintro e w3 ⟨n1, b1, rfl, k2⟩
  have K3 := Lib.hid (K2.out.trans k2); clear k2 K2
  cases b0
  · go_wp2_with fail
    go_ret
    exact ⟨rfl, K3.out.below (Nat.le_refl _) (by simp)⟩
  cases b1
  · go_wp2_with fail
    go_ret
    exact ⟨rfl, K3.out.below (Nat.le_refl _) (by simp)⟩
  go_wp2_with fail
  all_goals first
    | (go_ret; exact ⟨rfl, K3.out.below (Nat.le_refl _) (by simp)⟩)
    | skip
  rw [hvs] at R0
  rw [hks] at R1
  clear hvs hks
  refine (min_any _ len0 len1).mono ?_
  rintro e w' ⟨rfl, rfl⟩
  obtain ⟨n, hn⟩ : ∃ n, min len0 len1 = n := ⟨_, rfl⟩
  rw [hn]
  have hn0 : n ≤ len0 := by omega
  have hn1 : n ≤ len1 := by omega
  clear hn
  by_cases hz : n = 0
  · subst hz
    go_wp2_with fail
    go_ret
    exact ⟨rfl, K3.out.below (Nat.le_refl _) (by simp)⟩
  have hzi : ((n : Int) == 0) = false := by simp; omega
  go_wp2_with (at_make; refine wpList_make_own _ rfl _ _ 31 rfl w3.heap.size 44 i0 _ 12 Tryf.underlying31 HI.out HI0.out HI1.out _ _ _ n rfl rfl rfl ?b2 ?b3 (Nat.le_refl _) ?_)
  case b2 => rw [HI2.out]; omega
  case b3 => unfold maxLen; omega
  intro wm hown hgrow
  have HF : Hid (Bnds wm w3.heap.size (.slice (some ⟨w3.heap.size, 0, none⟩) 0 n) 0 vs ks []) := Lib.hid ⟨[], hown, rfl, rfl, BndAt.nil _ _ _⟩
  have HB : Hid (Kept [] w3 wm) := Lib.hid ((Kept.refl _ _).grown hgrow (by simp))
  clear hown hgrow
  obtain ⟨B, hB⟩ : ∃ B, w3.heap.size = B := ⟨_, rfl⟩
  rw [hB] at HF ⊢
  have HBB := Lib.hid hB; clear hB
  go_wp2_with fail
  go_loopw [12, 13] (fun v i wr => ∃ m : Nat, m ≤ n ∧ i = .int .i64 m ∧ Hid (Bnds wr B v m vs ks []) ∧ Kept [] w3 wr) (fun _ i _ => n - (intOf i).toNat)
  case atStart => exact ⟨0, Nat.zero_le _, rfl, HF, HB.out⟩
  case round =>
    clear HF HB
    obtain ⟨m, hm, rfl, HBN, hb⟩ := hrel
    obtain ⟨ys, hf, hln, hyv, hbnd⟩ := HBN.out
    clear HBN
    have HB := Lib.hid hb; clear hb
    obtain ⟨va, vc, hv, -⟩ := hf.slice
    rw [hln] at hv
    subst hv
    have HLN := Lib.hid hln; clear hln
    have HF := Lib.hid hf; clear hf
    have HYV := Lib.hid hyv; clear hyv
    have HBD := Lib.hid hbnd; clear hbnd
    have KW := Lib.hid (K3.out.trans HB.out)
    obtain ⟨wo, rfl⟩ : ∃ wo : World, wo = wr := ⟨_, rfl⟩
    by_cases hlt : m < n
    · obtain ⟨b, o, s, hs, rfl, hb0, c0⟩ := (R0.out.kept0 KW.out).row m (by omega)
      obtain ⟨b1, o1, t, ht, rfl, hb1, c1⟩ := (R1.out.kept0 KW.out).row m (by omega)
      obtain ⟨b', o', _, -, hx, hb0', -⟩ := R0.out.row m (by omega)
      obtain ⟨rfl, rfl⟩ : b = b' ∧ o = o' := by simpa using hx
      obtain ⟨b', o', _, -, hx', hb1', -⟩ := R1.out.row m (by omega)
      obtain ⟨rfl, rfl⟩ : b1 = b' ∧ o1 = o' := by simpa using hx'
      clear hx hx' hb0 hb1
      have HVS := Lib.hid hs; clear hs
      have HKS := Lib.hid ht; clear ht
      have HB0 := Lib.hid hb0'; clear hb0'
      have HB1 := Lib.hid hb1'; clear hb1'
      have hgs : B ≤ wo.heap.size := by rw [← HBB.out]; exact HB.out.size
      have HGS := Lib.hid hgs; clear hgs
      have ho : ∀ w2 o', Kept [] wo.drew w2 → OwnR 44 12 encY (w2.alloc o') B (.slice va m vc) ys := fun w2 o' k => HF.out.kept0 (((Kept.refl [] wo).drew.trans k).alloc o')
      have HO := Lib.hid ho; clear ho
      have ownlt : ∀ g, (Value.slice va m vc).ownBlock = some g → B ≤ g := fun g hg => (OwnR.blk HF.out hg).1
      have OWN := Lib.hid ownlt; clear ownlt
      have hbl : ∀ w2 o', Kept [] wo.drew w2 → B ≤ (w2.alloc o').heap.size := fun w2 o' k => by
        have h3 : wo.heap.size ≤ w2.heap.size := k.size
        have h4 : (w2.alloc o').heap.size = w2.heap.size + 1 := by simp
        have := HGS.out
        omega
      have HBL := Lib.hid hbl; clear hbl
      have BNE : Hid (b ∉ (Value.slice va m vc).ownBlock.toList) := Lib.hid (fun hm => by
        simp at hm
        have := OWN.out b hm
        have := HB0.out
        have := HBB.out
        have := K3.out.size
        omega)
      have BNE1 : Hid (b1 ∉ (Value.slice va m vc).ownBlock.toList) := Lib.hid (fun hm => by
        simp at hm
        have := OWN.out b1 hm
        have := HB1.out
        have := HBB.out
        have := K3.out.size
        omega)
      have H3 : Hid (ys.length + 1 ≤ maxLen) := Lib.hid (by rw [HLN.out]; unfold maxLen; omega)
      have H4 : Hid ((ys.length + 1) * 168 ≤ 140737488355328) := Lib.hid (by rw [HLN.out]; omega)
      have i1 : (0 : Int) ≤ (m : Int) := by omega
      have i2 : (m : Int) < (n : Int) := by omega
      have i3 : (m : Int) < (len0 : Int) := by omega
      have i4 : (m : Int) < (len1 : Int) := by omega
      go_wp2_with fail
      go_region_held3 (fun w' => w'.cell? ⟨b, o + m, none⟩ = some (.string s) ∧ w'.cell? ⟨b1, o1 + m, none⟩ = some (.string t))
        (first
          | go_keep
          | (go_split_ands
             refine ⟨?_, ?_⟩
             · exact k2.cell (by go_simp) (by simp)
             · exact k2.cell (by go_simp) (by simp))
          | (go_split_ands
             refine ⟨?_, ?_⟩
             · exact hk3.cell (by go_simp) BNE.out
             · exact hk3.cell (by go_simp) BNE1.out))
        (first
          | (go_at_call 9; refine (importBind_any _ s t none 0 0).mono ?_; rintro e w5 ⟨x, rfl, him, k2⟩)
          | ((refine step_push (T := 44) (c := 12) (enc := encY) (by rfl) _ _ 31 (by rfl) B i0 _ 168 Tryf.underlying31 HI.out HI0.out HI1.out HI2.out rfl (by decide) encY_len encY_one (.slice va m vc) ys (by rfl) (HO.out w5 _ k2) w5.heap.size ⟨(none, 0, 0), x, s⟩ 1 _ (by rfl) (heap_alloc_new w5 _) rfl H3.out H4.out (HBL.out w5 _ k2) ?_; intro v' w6 hown3 hk3)))
      all_goals
        have hkn : Kept [] w3 w6 := ((HB.out.drew.trans k2).alloc _).then hk3 (fun g hg => by
          simp at hg
          exact Or.inr (by rw [HBB.out]; exact OWN.out g hg))
        have HKN := Lib.hid hkn; clear hkn
        have HN : Hid (Bnds w6 B v' (m + 1) vs ks []) := Lib.hid ⟨_, hown3, by rw [List.length_append, HLN.out]; rfl, by rw [List.map_append, HYV.out, take_snoc HVS.out]; rfl, (HBD.out.kept0 (((Kept.refl [] wo).drew.trans k2).alloc _)).snoc hk3 (HO.out w5 _ k2).typ (by rw [HLN.out]; exact HKS.out) (him.kept0 ((Kept.refl [] w5).alloc _)) (f0_nil _ _)⟩
        clear hown3 hk3
        go_wp2_with fail
        exact ⟨⟨m + 1, by omega, by go_num, HN, HKN.out⟩, by simp [intOf]; omega⟩
    · obtain rfl : m = n := by omega
      go_wp2_with fail
      refine (toFodder_any _ _ _ _ z2 (W2.out.kept0 KW.out) (by omega)).mono ?_
      rintro e w5 ⟨fv, l5, rfl, hf5, hc5, k5⟩
      obtain ⟨fa, fc, hv, -⟩ := hf5.slice
      obtain ⟨fn, hfn⟩ : ∃ n, l5.length = n := ⟨_, rfl⟩
      have HLF : Hid (fn ≤ 65536) := Lib.hid <| by have := congrArg List.length hc5; rw [codes, List.length_map, List.length_map, HL2.out, hfn] at this; omega
      rw [hfn] at hv
      subst hv
      have HF5 := Lib.hid hf5; clear hf5
      have HC5 := Lib.hid hc5; clear hc5
      have HFN := Lib.hid hfn; clear hfn
      have K5 := Lib.hid (KW.out.trans k5)
      have KB5 := Lib.hid k5; clear k5
      go_wp2_with fail
      refine (cleanModel_any w5 _ _ l5 HF5.out (by rw [HFN.out]; exact HLF.out)).mono ?_
      rintro e w6 ⟨wv, l6, rfl, hf6, hc6, k6⟩
      obtain ⟨wa, wc, hv, -⟩ := hf6.slice
      obtain ⟨wn, hwn⟩ : ∃ n, l6.length = n := ⟨_, rfl⟩
      rw [hwn] at hv
      subst hv
      clear hwn
      have HF6 := Lib.hid hf6; clear hf6
      rw [HC5.out] at hc6
      have HC6 := Lib.hid hc6; clear hc6
      have K6 := Lib.hid (K5.out.trans k6)
      have KB6 := Lib.hid (KB5.out.trans k6); clear k6 HF5 HC5 HFN KB5 K5
      go_wp2_with fail
      refine (toFodder_any _ _ _ _ z2 (W2.out.kept0 K6.out) (by omega)).mono ?_
      rintro e w7 ⟨fv, l7, rfl, hf7, hc7, k7⟩
      obtain ⟨ga, gc, hv, -⟩ := hf7.slice
      obtain ⟨gn, hgn⟩ : ∃ n, l7.length = n := ⟨_, rfl⟩
      have HLG : Hid (gn ≤ 65536) := Lib.hid <| by have := congrArg List.length hc7; rw [codes, List.length_map, List.length_map, HL2.out, hgn] at this; omega
      rw [hgn] at hv
      subst hv
      have HF7 := Lib.hid hf7; clear hf7
      have HC7 := Lib.hid hc7; clear hc7
      have HGN := Lib.hid hgn; clear hgn
      have K7 := Lib.hid k7; clear k7
      go_wp2_with fail
      refine (extractZ_any w6 w7 va m vc ys ks (vs.take m) [] ga gn gc l7 (z2.map nz) K7.out (OwnR.rdy (HF.out.kept0 KB6.out)) (HBD.out.kept0 KB6.out) HYV.out (by omega) (by omega) (fun i => by rw [adjC_no (Nat.zero_le _)]; simp) HF7.out HC7.out (by rw [HGN.out]; exact HLG.out)).mono ?_
      rintro e w8 ⟨⟨ta, tn, tc⟩, xs, rfl, htn, hrx, hxl, hout, k8⟩
      dsimp only at htn
      subst htn
      have HRX := Lib.hid hrx; clear hrx
      have HXL := Lib.hid hxl; clear hxl
      have HOUT := Lib.hid hout; clear hout
      have HW8 := Lib.hid (HF6.out.kept k8 (by simp)); clear HF6
      have K8 := Lib.hid (K6.out.trans k8); clear k8 K6 K7 HF7 HC7 HGN HLF HLG KB6 HF HYV HBD HB KW
      unfold Trip.val
      dsimp only
      go_wp2_with fail
      go_loopw [16] (fun i wr => ∃ k : Nat, k ≤ tn ∧ i = .int .i64 k ∧ Kept [] w8 wr) (fun i _ => tn - (intOf i).toNat)
      case atStart => exact ⟨0, Nat.zero_le _, rfl, Kept.refl _ _⟩
      case round =>
        obtain ⟨k, hk, rfl, hkw⟩ := hrel
        have HKW := Lib.hid hkw; clear hkw
        by_cases hlt : k < tn
        · obtain ⟨xb, xo, ⟨⟨ja, jn, jc⟩, key, ⟨fa', fn', fc'⟩, imp, var⟩, hx, rfl, hxb, hcc⟩ := (HRX.out.kept0 HKW.out).row k hlt
          obtain ⟨o1, o2, o3, o4⟩ := HOUT.out k _ hx
          dsimp only at o1 o2 o3 o4
          have e0 := hcc 0 (by omega)
          have e1 := hcc 1 (by omega)
          have e2 := hcc 2 (by omega)
          have e3 := hcc 3 (by omega)
          have e4 := hcc 4 (by omega)
          have e5 := hcc 5 (by omega)
          have e6 := hcc 6 (by omega)
          have e7 := hcc 7 (by omega)
          have e8 := hcc 8 (by omega)
          have e9 := hcc 9 (by omega)
          have e10 := hcc 10 (by omega)
          have e11 := hcc 11 (by omega)
          have e12 := hcc 12 (by omega)
          have e13 := hcc 13 (by omega)
          clear hcc hx
          simp only [encX, Trip.val, Nat.add_zero, List.getElem?_cons_succ, List.getElem?_cons_zero] at e0 e1 e2 e3 e4 e5 e6 e7 e8 e9 e10 e11 e12 e13
          have hf0 : fn' = 0 := by
            obtain ⟨_, lv, h1, h2⟩ := o3
            have hv0 : vfC [] k = [] := by unfold vfC; rw [adjC_no (Nat.zero_le _), adjC_no (Nat.zero_le _)]; split <;> rfl
            rw [hv0] at h2
            have h3 : fn' = lv.length := h1.len
            rw [h3]
            simpa [codes] using h2
          subst hf0
          clear o3
          have O4 := Lib.hid o4; clear o4
          obtain ⟨wo, rfl⟩ : ∃ wo : World, wo = wr := ⟨_, rfl⟩
          obtain ⟨b0, o0, s0, hs0, rfl, -, c0⟩ := (R0.out.kept0 (K8.out.trans HKW.out)).row k (by omega)
          obtain ⟨b1, q1, s1, hs1, rfl, -, c1⟩ := (R1.out.kept0 (K8.out.trans HKW.out)).row k (by omega)
          obtain rfl : key = s1 := by rw [o1] at hs1; exact Option.some.inj hs1
          obtain rfl : var = s0 := by rw [List.getElem?_take, if_pos hlt, hs0] at o2; exact (Option.some.inj o2).symm
          clear hs0 hs1 o1 o2
          have j1 : (0 : Int) ≤ (k : Int) := by omega
          have j2 : (k : Int) < (tn : Int) := by omega
          have j3 : (k : Int) < (len0 : Int) := by omega
          have j4 : (k : Int) < (len1 : Int) := by omega
          go_wp2_with fail
          obtain ⟨be, hbe⟩ : ∃ be, wo.heap.size = be := ⟨_, rfl⟩
          obtain ⟨WE, hWE⟩ : ∃ WE, wo.alloc (.cells #[.slice ja jn jc, .string key, .slice fa' 0 fc', .iface 60 (.pointer (some ⟨imp, 0, none⟩)), .slice none 0 0, .string var, .slice none 0 0, .pointer none, .pointer none, .string ⟨#[]⟩, .int .i64 0, .int .i64 0, .int .i64 0, .int .i64 0] 52) = WE := ⟨_, rfl⟩
          have ke : Kept [] wo WE := hWE ▸ (Kept.refl [] _).alloc _
          have xe : WE.heap[be]? = some (.cells #[.slice ja jn jc, .string key, .slice fa' 0 fc', .iface 60 (.pointer (some ⟨imp, 0, none⟩)), .slice none 0 0, .string var, .slice none 0 0, .pointer none, .pointer none, .string ⟨#[]⟩, .int .i64 0, .int .i64 0, .int .i64 0, .int .i64 0] 52 (0, 0)) := by rw [← hWE, ← hbe]; exact heap_alloc_new _ _
          rw [hWE, hbe]
          have VA := Lib.hid (ke.cell c0 (by simp))
          have FA := Lib.hid (ke.cell c1 (by simp))
          have KE := Lib.hid (HKW.out.trans ke)
          have N0 : Hid (WE.cell? ⟨be, 0, none⟩ = some (.slice ja jn jc)) := Lib.hid (cell_of_block xe 0)
          have N1 : Hid (WE.cell? ⟨be, 1, none⟩ = some (.string key)) := Lib.hid (cell_of_block xe 1)
          have N2 : Hid (WE.cell? ⟨be, 2, none⟩ = some (.slice fa' 0 fc')) := Lib.hid (cell_of_block xe 2)
          have N3 : Hid (WE.cell? ⟨be, 3, none⟩ = some (.iface 60 (.pointer (some ⟨imp, 0, none⟩)))) := Lib.hid (cell_of_block xe 3)
          have N4 : Hid (WE.cell? ⟨be, 4, none⟩ = some (.slice none 0 0)) := Lib.hid (cell_of_block xe 4)
          have N5 : Hid (WE.cell? ⟨be, 5, none⟩ = some (.string var)) := Lib.hid (cell_of_block xe 5)
          have N6 : Hid (WE.cell? ⟨be, 6, none⟩ = some (.slice none 0 0)) := Lib.hid (cell_of_block xe 6)
          have N7 : Hid (WE.cell? ⟨be, 7, none⟩ = some (.pointer none)) := Lib.hid (cell_of_block xe 7)
          have N8 : Hid (WE.cell? ⟨be, 8, none⟩ = some (.pointer none)) := Lib.hid (cell_of_block xe 8)
          have N9 : Hid (WE.cell? ⟨be, 9, none⟩ = some (.string ⟨#[]⟩)) := Lib.hid (cell_of_block xe 9)
          have N10 : Hid (WE.cell? ⟨be, 10, none⟩ = some (.int .i64 0)) := Lib.hid (cell_of_block xe 10)
          have N11 : Hid (WE.cell? ⟨be, 11, none⟩ = some (.int .i64 0)) := Lib.hid (cell_of_block xe 11)
          have N12 : Hid (WE.cell? ⟨be, 12, none⟩ = some (.int .i64 0)) := Lib.hid (cell_of_block xe 12)
          have N13 : Hid (WE.cell? ⟨be, 13, none⟩ = some (.int .i64 0)) := Lib.hid (cell_of_block xe 13)
          clear hWE hbe ke xe c0 c1 e0 e1 e2 e3 e4 e5 e6 e7 e8 e9 e10 e11 e12 e13
          have kr := Kept.refl [] WE
          go_region_held3 (fun w' => w'.cell? ⟨be, 0, none⟩ = some (.slice ja jn jc) ∧ w'.cell? ⟨be, 1, none⟩ = some (.string key) ∧ w'.cell? ⟨be, 2, none⟩ = some (.slice fa' 0 fc') ∧ w'.cell? ⟨be, 3, none⟩ = some (.iface 60 (.pointer (some ⟨imp, 0, none⟩))) ∧ w'.cell? ⟨be, 4, none⟩ = some (.slice none 0 0) ∧ w'.cell? ⟨be, 5, none⟩ = some (.string var) ∧ w'.cell? ⟨be, 6, none⟩ = some (.slice none 0 0) ∧ w'.cell? ⟨be, 7, none⟩ = some (.pointer none) ∧ w'.cell? ⟨be, 8, none⟩ = some (.pointer none) ∧ w'.cell? ⟨be, 9, none⟩ = some (.string ⟨#[]⟩) ∧ w'.cell? ⟨be, 10, none⟩ = some (.int .i64 0) ∧ w'.cell? ⟨be, 11, none⟩ = some (.int .i64 0) ∧ w'.cell? ⟨be, 12, none⟩ = some (.int .i64 0) ∧ w'.cell? ⟨be, 13, none⟩ = some (.int .i64 0) ∧ w'.cell? ⟨b0, o0 + k, none⟩ = some (.string var) ∧ w'.cell? ⟨b1, q1 + k, none⟩ = some (.string key) ∧ Kept [] WE w')
            ((try go_split_ands; refine (fun h : Kept [] WE _ => ⟨h.cell N0.out (by simp), h.cell N1.out (by simp), h.cell N2.out (by simp), h.cell N3.out (by simp), h.cell N4.out (by simp), h.cell N5.out (by simp), h.cell N6.out (by simp), h.cell N7.out (by simp), h.cell N8.out (by simp), h.cell N9.out (by simp), h.cell N10.out (by simp), h.cell N11.out (by simp), h.cell N12.out (by simp), h.cell N13.out (by simp), h.cell VA.out (by simp), h.cell FA.out (by simp), h⟩) ?_; first | assumption | exact Kept.trans (by assumption) k2 | exact Kept.trans (Kept.drew (by assumption)) k2 | exact Kept.drew (by assumption)))
            (first
            | (go_at_call 14; refine (elemKey_any _ _ _ _ _ _ _ _ _ _ _ _ _ _ _).mono ?_; rintro e wk ⟨rfl, k2⟩; dsimp only)
            | (go_at_call 15; refine (elemVari_any _ _ _ _ _ _ _ _ _ _ _ _ _ _ _).mono ?_; rintro e wk2 ⟨rfl, k2⟩; dsimp only))
          all_goals
            try go_split_ands
            have kq : Kept [] WE wk2 := by assumption
            have KQ := Lib.hid kq; clear kq k2 kr
            go_wp2_with fail
            refine (elemVarF_any _ _ _ _ _ _ _ _ _ _ _ _ _ _ _).mono ?_
            rintro e w9 ⟨rfl, k9⟩
            have K9 := Lib.hid (KQ.out.trans k9); clear k9
            dsimp only
            have m0 := K9.out.cell N0.out (by simp)
            have m1 := K9.out.cell N1.out (by simp)
            have m2 := K9.out.cell N2.out (by simp)
            have m3 := K9.out.cell N3.out (by simp)
            have m4 := K9.out.cell N4.out (by simp)
            have m5 := K9.out.cell N5.out (by simp)
            have m6 := K9.out.cell N6.out (by simp)
            have m7 := K9.out.cell N7.out (by simp)
            have m8 := K9.out.cell N8.out (by simp)
            have m9 := K9.out.cell N9.out (by simp)
            have m10 := K9.out.cell N10.out (by simp)
            have m11 := K9.out.cell N11.out (by simp)
            have m12 := K9.out.cell N12.out (by simp)
            have m13 := K9.out.cell N13.out (by simp)
            go_wp2_with fail
            refine (elemAdj_any _ _ _ _ _ _ _ _ _ _ _ _ _ _ _).mono ?_
            rintro e w10 ⟨rfl, k10⟩
            have K10 := Lib.hid (K9.out.trans k10); clear k10
            clear m0 m1 m2 m3 m4 m5 m6 m7 m8 m9 m10 m11 m12 m13
            have KF := Lib.hid (KE.out.trans K10.out)
            dsimp only
            by_cases hl : k + 1 < tn
            · have hl1 : ((k : Int) < (tn : Int) - 1) := by omega
              obtain ⟨_, lv, h1, h2⟩ := O4.out
              have hv0 : adC [] tn (z2.map nz) k = [⟨0, 0, 0, 0⟩] := by unfold adC; rw [if_pos hl, adjC_no (Nat.zero_le _)]; rfl
              rw [hv0] at h2
              have hjn : jn = 1 := by
                have h3 : jn = lv.length := h1.len
                rw [h3]
                have := congrArg List.length h2
                simpa [codes] using this
              obtain ⟨ja', jc', hv, -, -, hg⟩ := h1.slice
              obtain ⟨g, rfl, -, -⟩ := hg 0 (by have := congrArg List.length h2; simp [codes] at this; omega)
              have hja : ja = some ⟨g, 0, none⟩ := by
                unfold Trip.val at hv
                injection hv
              subst hja hjn
              obtain ⟨x, hx, x0, x1, x2, x3⟩ := (h1.kept KF.out (by simp)).cells 0 (by have := congrArg List.length h2; simp [codes] at this; omega)
              have hxs : x.snap = ⟨0, 0, 0, 0⟩ := by
                have h4 : (codes lv)[0]? = some x.snap := by rw [codes, List.getElem?_map, hx]; rfl
                rw [h2] at h4
                exact (Option.some.inj h4).symm
              obtain ⟨xa, xl, xc, xk, xb', xi⟩ := x
              simp only [FE.snap, ZE.mk.injEq] at hxs
              obtain ⟨rfl, rfl, rfl, hxl⟩ := hxs
              obtain rfl : xl = 0 := by omega
              simp only [Nat.zero_mul, Nat.zero_add] at x0 x1 x2 x3
              clear hv hg hx h1 h2 hv0 hxl
              go_wp2_with fail
              exact ⟨⟨k + 1, by omega, by go_num, KF.out⟩, by simp [intOf]; omega⟩
            · have hl1 : ¬ ((k : Int) < (tn : Int) - 1) := by omega
              obtain ⟨_, lv, h1, h2⟩ := O4.out
              have hv0 : adC [] tn (z2.map nz) k = ens (z2.map nz) := by unfold adC; rw [if_neg hl]
              rw [hv0] at h2
              go_wp2_with fail
              refine (same_any _ _ _ _ _ lv _ _ _ _ l6 (h1.kept KF.out (by simp)) (HW8.out.kept KF.out (by simp)) (by rw [h2, HC6.out])).mono ?_
              rintro e w11 ⟨rfl, mm, rfl⟩
              go_wp2_with fail
              exact ⟨⟨k + 1, by omega, by go_num, KF.out.drewN _⟩, by simp [intOf]; omega⟩
        · obtain rfl : k = tn := by omega
          go_wp2_with fail
          go_ret
          exact ⟨rfl, (K8.out.trans HKW.out).below (Nat.le_refl _) (by simp)⟩
end fnExtractImportElemsEmptyVarFodderExact
end Go.Proofs.YtddcpnhpjgeldaaFmt
