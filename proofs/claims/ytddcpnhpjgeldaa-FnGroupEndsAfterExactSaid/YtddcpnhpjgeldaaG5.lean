/- The walk of the law FnGroupEndsAfterExact: it returns true at every input, and writes nothing that was there. -/
import Derived.Test.YtddcpnhpjgeldaaG4
namespace Go.Proofs.Ytddcpnhpjgeldaa
attribute [local go_sem ↓] Go.wp_at_zero Go.wp_at_succ
open Go.ChangeShapes Go.WideShapes Go.ChangeAt Go.RowKit

theorem goodB_bad {ys : List BD} (t : Trip) (k x : Nat) (s : ByteArray) (hk : k ≠ 0) : goodB (ys ++ [⟨t, k, x, s⟩]) = false := by
  unfold goodB
  rw [List.all_append]
  simp [hk]
theorem frozen_new (w : World) (cs : Array Value) (t : TypeId) (n : Nat) (hn : n = w.heap.size) (o : Nat) : (w.alloc (.cells cs t)).frozen? ⟨n, o, none⟩ = false := by
  subst hn
  exact frozen_of_block (heap_alloc_new w _) o
/-- The local at T is given a body, a local; then it is asked. -/
theorem top_local {W w' : World} {T nb base b2 : Nat} {u v fv : Value} {ys : List BD} {l : List FE} (cT : W.cell? ⟨T, 1, none⟩ = some u) (c0 : W.cell? ⟨nb, 0, none⟩ = some v) (c2 : W.cell? ⟨nb, 2, none⟩ = some fv) (hne : nb ≠ T)
    (hv : OwnR 68 12 encL W base v ys) (hf : Fod W b2 fv l) (hvT : ∀ g, v.ownBlock = some g → g ≠ T) (hfT : ∀ g, fv.ownBlock = some g → g ≠ T) (q : Kept [] (W.setCell ⟨T, 1, none⟩ (.iface 34 (.pointer (some ⟨nb, 0, none⟩)))) w') :
    Calls Try.prog 12 #[.pointer (some ⟨T, 0, none⟩)] w' (Bl (!goodB ys || ends (codes l)) w') := by
  have k : Kept [T] W (W.setCell ⟨T, 1, none⟩ (.iface 34 (.pointer (some ⟨nb, 0, none⟩)))) := (Kept.refl [T] W).setCell (p := ⟨T, 1, none⟩) (Or.inl (by simp)) _
  refine endsZ (ends_local w' T nb base b2 v ys fv l ?_ ?_ ?_ ?_ ?_)
  · exact q.cell (World.cell?_setCell_same _ _ _ cT) (by simp)
  · exact (hv.kept k (fun g hg => by simpa using hvT g hg)).kept0 q
  · exact q.cell (k.cell c0 (by simpa using hne)) (by simp)
  · exact q.cell (k.cell c2 (by simpa using hne)) (by simp)
  · exact (hf.kept k (fun g hg => by simpa using hfT g hg)).kept q (by simp)
theorem top_null {W w' : World} {T x : Nat} {u : Value} (cT : W.cell? ⟨T, 1, none⟩ = some u) (q : Kept [] (W.setCell ⟨T, 1, none⟩ (.iface 78 (.pointer (some ⟨x, 0, none⟩)))) w') :
    Calls Try.prog 12 #[.pointer (some ⟨T, 0, none⟩)] w' (Bl true w') :=
  endsZ (ends_null w' T x (q.cell (World.cell?_setCell_same _ _ _ cT) (by simp)))

namespace fnGroupEndsAfterExact
set_option maxRecDepth 100000 in
set_option maxHeartbeats 16000000 in
theorem walk (a0 : Int) (a1 : Option Addr) (len1 cap1 : Nat) (z1 : List ZE) (a2 : Option Addr) (len2 cap2 : Nat) (z2 : List ByteArray) (a3 : Option Addr) (len3 cap3 : Nat) (z3 : List ByteArray) (a4 : Option Addr) (len4 cap4 : Nat) (z4 : List ZE) (w : World) (_ : (Lit.int .i64 a0).wf = true) (w1 : RdZ w a1 len1 cap1 z1) (w2 : IsStrs w a2 len2 cap2 z2) (w3 : IsStrs w a3 len3 cap3 z3) (w4 : RdZ w a4 len4 cap4 z4) :
    Calls Try.prog 7 #[.int .i64 a0, .slice a1 len1 cap1, .slice a2 len2 cap2, .slice a3 len3 cap3, .slice a4 len4 cap4] w fun e w' => e = .returned (.bool true) ∧ Below w.heap.size w w' := by
  have le1 := w1.le
  have top1 := w1.top
  have le4 := w4.le
  have top4 := w4.top
  obtain ⟨le2, top2, -, -, -⟩ := w2.open
  obtain ⟨le3, top3, -, -, -⟩ := w3.open
  have hm1 : len1 ≤ maxLen := Nat.le_trans le1 top1
  have hm4 : len4 ≤ maxLen := Nat.le_trans le4 top4
  have HM1 := Lib.hid hm1; clear hm1
  have HM4 := Lib.hid hm4; clear hm4
  unfold maxLen at top1 top2 top3 top4
  have hl1 := w1.len
  have HL1 := Lib.hid hl1; clear hl1
  have W1 := Lib.hid w1; clear w1
  have W4 := Lib.hid w4; clear w4
  have R2 := Lib.hid w2.rdb
  have R3 := Lib.hid w3.rdb
  have W2 := Lib.hid w2; clear w2
  have W3 := Lib.hid w3; clear w3
  go_enter Try.func7, Try.ntmps7
  go_wp2_with fail
  refine (zzB_FnGroupEndsAfterExact _ _ _ _ _ _ _ _ z2 _ _ _ z3 _ _ _ HM1.out W2.out W3.out HM4.out).mono ?_
  rintro e w1 ⟨b, rfl, k1⟩
  have K1 := Lib.hid k1; clear k1
  cases b
  · go_wp2_with fail
    go_ret
    exact ⟨rfl, K1.out.below (Nat.le_refl _) (by simp)⟩
  by_cases g1 : 65536 < len1
  · go_wp2_with fail
    go_ret
    exact ⟨rfl, K1.out.below (Nat.le_refl _) (by simp)⟩
  by_cases g2 : 65536 < len2
  · go_wp2_with fail
    go_ret
    exact ⟨rfl, K1.out.below (Nat.le_refl _) (by simp)⟩
  by_cases g3 : 65536 < len3
  · go_wp2_with fail
    go_ret
    exact ⟨rfl, K1.out.below (Nat.le_refl _) (by simp)⟩
  by_cases g4 : 65536 < len4
  · go_wp2_with fail
    go_ret
    exact ⟨rfl, K1.out.below (Nat.le_refl _) (by simp)⟩
  go_wp2_with fail
  refine (strBytes_any _ _ _ _ z2 (K1.out.strs W2.out (by simp))).mono ?_
  rintro e w2 ⟨n0, b0, rfl, k2⟩
  have K2 := Lib.hid (K1.out.trans k2); clear k2 K1
  go_wp2_with fail
  refine (strBytes_any _ _ _ _ z3 (K2.out.strs W3.out (by simp))).mono ?_
  rintro e w3 ⟨n1, b1, rfl, k3⟩
  have K3 := Lib.hid (K2.out.trans k3); clear k3 K2
  cases b0
  · go_wp2_with fail
    go_ret
    exact ⟨rfl, K3.out.below (Nat.le_refl _) (by simp)⟩
  cases b1
  · go_wp2_with fail
    go_ret
    exact ⟨rfl, K3.out.below (Nat.le_refl _) (by simp)⟩
  obtain ⟨T, hT⟩ : ∃ T, a0.tmod 4 = T := ⟨_, rfl⟩
  have hTa : T.natAbs < 4 := by
    rw [← hT, Int.natAbs_tmod]
    exact Nat.mod_lt _ (by omega)
  obtain ⟨S, hS0, hS4, hS⟩ : ∃ S : Int, 0 ≤ S ∧ S < 4 ∧ ((T < 0 ∧ T + 4 = S) ∨ (¬ T < 0 ∧ S = T)) := by
    by_cases h : T < 0
    · exact ⟨T + 4, by omega, by omega, Or.inl ⟨h, rfl⟩⟩
    · exact ⟨T, by omega, by omega, Or.inr ⟨h, rfl⟩⟩
  rcases hS with ⟨hneg, e1⟩ | ⟨hneg, rfl⟩
  all_goals
    go_wp2_with fail
    all_goals first
      | (go_ret; exact ⟨rfl, K3.out.below (Nat.le_refl _) (by simp)⟩)
      | skip
    refine (min_any _ len2 len3).mono ?_
    rintro e w' ⟨rfl, rfl⟩
    obtain ⟨n, hn⟩ : ∃ n, min len2 len3 = n := ⟨_, rfl⟩
    rw [hn]
    have hn0 : n ≤ len2 := by omega
    have hn1 : n ≤ len3 := by omega
    clear hn
    obtain ⟨i0, hi, hz0, hz1, hz2⟩ := info_parts Try.infoLB
    have HI := Lib.hid hi; clear hi
    have HI0 := Lib.hid hz0; clear hz0
    have HI1 := Lib.hid hz1; clear hz1
    have HI2 := Lib.hid hz2; clear hz2
    have R2b := Lib.hid (R2.out.kept0 K3.out)
    have R3b := Lib.hid (R3.out.kept0 K3.out)
    have hws : w.heap.size ≤ w3.heap.size := K3.out.size
    have HWS := Lib.hid hws; clear hws
    go_wp2_with (at_make; refine wpList_make_own _ rfl _ _ 45 rfl w3.heap.size 68 i0 _ 12 Try.underlying45 HI.out HI0.out HI1.out _ _ _ (n + 1) rfl rfl (by simp) ?b2 ?b3 (Nat.le_refl _) ?_)
    case b2 => rw [HI2.out]; omega
    case b3 => unfold maxLen; omega
    intro w4 hown hgrow
    have hf : OwnR 68 12 encL w4 w3.heap.size (.slice (some ⟨w3.heap.size, 0, none⟩) 0 (n + 1)) [] := hown
    have hb : Kept [] w3 w4 := (Kept.refl _ _).grown hgrow (by simp)
    clear hown hgrow
    obtain ⟨B, hB⟩ : ∃ B, w3.heap.size = B := ⟨_, rfl⟩
    rw [hB] at hf ⊢
    have HBB := Lib.hid hB; clear hB
    have HF := Lib.hid hf; clear hf
    have HB := Lib.hid hb; clear hb
    go_wp2_with fail
    go_loopw [17, 18] (fun v i wr => ∃ m : Nat, m ≤ n ∧ i = .int .i64 m ∧ (∃ ys, OwnR 68 12 encL wr B v ys ∧ ys.length = m ∧ goodB ys = true) ∧ Kept [] w3 wr) (fun _ i _ => n - (intOf i).toNat)
    case atStart => exact ⟨0, Nat.zero_le _, rfl, ⟨[], HF.out, rfl, rfl⟩, HB.out⟩
    case round =>
      clear HF HB
      obtain ⟨m, hm, rfl, ⟨ys, hf, hln, hgo⟩, hb⟩ := hrel
      have HB := Lib.hid hb; clear hb
      obtain ⟨va, vc, hv, -⟩ := hf.slice
      rw [hln] at hv
      subst hv
      have HLN := Lib.hid hln; clear hln
      have HGO := Lib.hid hgo; clear hgo
      have HF := Lib.hid hf; clear hf
      obtain ⟨wo, rfl⟩ : ∃ wo : World, wo = wr := ⟨_, rfl⟩
      by_cases hlt : m < n
      · obtain ⟨b, o, _, -, hx0, hb0, -⟩ := R2b.out.row m (by omega)
        obtain ⟨b1, o1, _, -, hx1, hb1, -⟩ := R3b.out.row m (by omega)
        have HB0 := Lib.hid hb0; clear hb0
        have HB1 := Lib.hid hb1; clear hb1
        subst hx0 hx1
        obtain ⟨b', o', s, -, hx, hbl, c0⟩ := (R2b.out.kept0 HB.out).row m (by omega)
        obtain ⟨rfl, rfl⟩ : b = b' ∧ o = o' := by simpa using hx
        obtain ⟨b', o', t, -, hx', hbl1, c1⟩ := (R3b.out.kept0 HB.out).row m (by omega)
        obtain ⟨rfl, rfl⟩ : b1 = b' ∧ o1 = o' := by simpa using hx'
        clear hx hx'
        have ho : ∀ w2 o', Kept [] wo.drew w2 → OwnR 68 12 encL (w2.alloc o') B (.slice va m vc) ys := fun w2 o' k => HF.out.kept0 (((Kept.refl [] wo).drew.trans k).alloc o')
        have HO := Lib.hid ho; clear ho
        have ownlt : ∀ g, (Value.slice va m vc).ownBlock = some g → B ≤ g := fun g hg => (OwnR.blk HF.out hg).1
        have OWN := Lib.hid ownlt; clear ownlt
        have hgs : B ≤ wo.heap.size := by rw [← HBB.out]; exact HB.out.size
        have HGS := Lib.hid hgs; clear hgs
        have hbl : ∀ w2 o', Kept [] wo.drew w2 → B ≤ (w2.alloc o').heap.size := fun w2 o' k => by
          have h3 : wo.heap.size ≤ w2.heap.size := k.size
          have h4 : (w2.alloc o').heap.size = w2.heap.size + 1 := by simp
          have := HGS.out
          omega
        have HBL := Lib.hid hbl; clear hbl
        have bne : b ∉ (Value.slice va m vc).ownBlock.toList := fun hm => by
          simp at hm
          have := OWN.out b hm
          have := HB0.out
          have := HBB.out
          omega
        have BNE := Lib.hid bne; clear bne
        have bne1 : b1 ∉ (Value.slice va m vc).ownBlock.toList := fun hm => by
          simp at hm
          have := OWN.out b1 hm
          have := HB1.out
          have := HBB.out
          omega
        have BNE1 := Lib.hid bne1; clear bne1
        have H3 : Hid (ys.length + 1 ≤ maxLen) := Lib.hid (by rw [HLN.out]; unfold maxLen; omega)
        have H4 : Hid ((ys.length + 1) * 168 ≤ 140737488355328) := Lib.hid (by rw [HLN.out]; omega)
        have i1 : (0 : Int) ≤ (m : Int) := by omega
        have i2 : (m : Int) < (n : Int) := by omega
        have i3 : (m : Int) < (len2 : Int) := by omega
        have i4 : (m : Int) < (len3 : Int) := by omega
        go_wp2_with fail
        go_region_held3 (fun w' => w'.cell? ⟨b, o + m, none⟩ = some (.string s) ∧ w'.cell? ⟨b1, o1 + m, none⟩ = some (.string t))
          (first
            | go_keep
            | (go_split_ands
               refine ⟨?_, ?_⟩
               · exact k2.cell (by go_simp) (by simp)
               · exact k2.cell (by go_simp) (by simp))
            | (go_split_ands
               refine ⟨?_, ?_⟩
               · exact hk3.cell (by go_simp) BNE.out
               · exact hk3.cell (by go_simp) BNE1.out))
          (first
            | (go_at_call 26; refine (importBind_any _ s t none 0 0).mono ?_; rintro e w2 ⟨x, rfl, k2⟩)
            | ((refine step_push (T := 68) (c := 12) (enc := encL) (by rfl) _ _ 45 (by rfl) B i0 _ 168 Try.underlying45 HI.out HI0.out HI1.out HI2.out rfl (by decide) encL_len encL_one (.slice va m vc) ys (by rfl) (HO.out w2 _ k2) w2.heap.size ⟨(none, 0, 0), 0, x, s⟩ 1 _ (by rfl) (heap_alloc_new w2 _) rfl H3.out H4.out (HBL.out w2 _ k2) ?_; intro v' wz hown3 hk3)))
        all_goals
          have hkn : Kept [] w3 wz := ((HB.out.drew.trans k2).alloc _).then hk3 (fun g hg => by
            simp at hg
            exact Or.inr (by rw [HBB.out]; exact OWN.out g hg))
          have HKN := Lib.hid hkn; clear hkn hk3
          have HN : Hid (∃ ys, OwnR 68 12 encL wz B v' ys ∧ ys.length = m + 1 ∧ goodB ys = true) := Lib.hid ⟨_, hown3, by rw [List.length_append, HLN.out]; rfl, goodB_snoc HGO.out _ _ _⟩
          clear hown3
          go_wp2_with fail
          exact ⟨⟨m + 1, by omega, by go_num, HN.out, HKN.out⟩, by simp [intOf]; omega⟩
      · obtain rfl : m = n := by omega
        have hS : S = 0 ∨ S = 1 ∨ S = 2 ∨ S = 3 := by omega
        clear hS0 hS4
        try clear e1 hT
        try clear hT
        rcases hS with rfl | rfl | rfl | rfl
        · have HKw := Lib.hid (K3.out.trans HB.out)
          have HXL : Hid (∀ g, (Value.slice va m vc).ownBlock = some g → g < wo.heap.size) := Lib.hid (fun g hg => (OwnR.blk HF.out hg).2)
          go_wp2_with fail
          refine (toFodder_any _ _ _ _ z4 (W4.out.kept0 HKw.out) (by omega)).mono ?_
          rintro e wt ⟨vt, lt, rfl, hft, hct, kt⟩
          obtain ⟨ta, tc, hv, -⟩ := hft.slice
          obtain ⟨tn, hn⟩ : ∃ n, lt.length = n := ⟨_, rfl⟩
          rw [hn] at hv
          subst hv
          clear hn hft hct
          have KT := Lib.hid kt; clear kt
          go_wp2_with fail
          refine (importBind_any _ _ _ none 0 0).mono ?_
          rintro e wi ⟨x, rfl, ki⟩
          have KI := Lib.hid (KT.out.trans ki); clear ki
          have HKi := Lib.hid (HKw.out.trans KI.out); clear HKw
          go_wp2_with fail
          refine (toFodder_any _ _ _ _ z1 (W1.out.kept0 ((HKi.out.alloc _).alloc _)) (by omega)).mono ?_
          rintro e wn ⟨vn, ln, rfl, hfn, hcn, kn⟩
          have cT : wn.cell? ⟨wi.heap.size + 1, 1, none⟩ = some .nilIface := kn.cell (cell_new (wi.alloc _) _ _ _ (by simp) 1) (by simp)
          have fT : wn.frozen? ⟨wi.heap.size + 1, 1, none⟩ = false := (kn.frozen (p := ⟨wi.heap.size + 1, 1, none⟩) (by simp) (by simp)).trans (frozen_new (wi.alloc _) _ _ _ (by simp) 1)
          have hfT : ∀ g, vn.ownBlock = some g → g ≠ wi.heap.size + 1 := fun g hg e => by
            have := (World.ownsRow.lt hfn g hg).1
            simp only [World.size_alloc] at this
            omega
          have hTs : wi.heap.size + 2 ≤ wn.heap.size := by have := kn.size; simpa using this
          have kin : Kept [] wi wn := (((Kept.refl [] wi).alloc _).alloc _).trans kn
          obtain ⟨na, nc', hv, -⟩ := hfn.slice
          obtain ⟨nn, hn⟩ : ∃ n, ln.length = n := ⟨_, rfl⟩
          rw [hn] at hv
          subst hv
          clear hn
          have hlnn : ln.length = len1 := by have := congrArg List.length hcn; simp only [codes, List.length_map] at this; rw [this, HL1.out]
          have HLNN := Lib.hid hlnn; clear hlnn
          obtain ⟨TT, hTT⟩ : ∃ TT, wi.heap.size + 1 = TT := ⟨_, rfl⟩
          have HTT0 : Hid (TT + 1 ≤ wn.heap.size) := Lib.hid (by omega)
          rw [hTT] at cT fT hfT ⊢
          have HTT := Lib.hid hTT; clear hTT
          have tl : TT < wn.heap.size := by have := HTT0.out; omega
          have cTa := fun o => ((Kept.refl [] wn).alloc o).cell cT (by simp)
          have fTa := fun o => (((Kept.refl [] wn).alloc o).frozen (p := ⟨TT, 1, none⟩) tl (by simp)).trans fT
          have cTb := fun o o' => (((Kept.refl [] wn).alloc o).alloc o').cell cT (by simp)
          have fTb := fun o o' => ((((Kept.refl [] wn).alloc o).alloc o').frozen (p := ⟨TT, 1, none⟩) tl (by simp)).trans fT
          clear tl
          have HFN := Lib.hid hfn; clear hfn
          have HCN := Lib.hid hcn; clear hcn
          have HFT := Lib.hid hfT; clear hfT
          have KIN := Lib.hid kin; clear kin kn
          have HTS := Lib.hid hTs; clear hTs
          go_wp2_with fail
          have kS := ((HKi.out.trans KIN.out).alloc (.cells #[.slice none 0 0, .pointer none, .slice none 0 0, .pointer none, .string ⟨#[]⟩, .int .i64 0, .int .i64 0, .int .i64 0, .int .i64 0] 80))
          clear kS
          refine (toFodder_any _ _ _ _ z1 (W1.out.kept0 ((((HKi.out.trans KIN.out).alloc _).alloc _).setCell (p := ⟨TT, 1, none⟩) (Or.inr (by have := HKi.out.size; have := HTT.out; show _ ≤ TT; omega)) _)) (by omega)).mono ?_
          rintro e wm ⟨vm, lm, rfl, hfm, hcm, km⟩
          have hlm : lm.length ≤ 4194304 := by have := congrArg List.length hcm; simp only [codes, List.length_map] at this; rw [this, HL1.out]; omega
          have HLM := Lib.hid hlm; clear hlm
          have HFM := Lib.hid hfm; clear hfm
          have HCM := Lib.hid hcm; clear hcm
          have KM := Lib.hid km; clear km
          go_wp2_with fail
          refine (endsModel_any _ _ _ _ HFM.out HLM.out).mono ?_
          rw [HCM.out]
          rintro e wx ⟨rfl, kx⟩
          have KX := Lib.hid (KM.out.trans kx); clear kx
          go_wp2_with fail
          refine (top_local (T := TT) (nb := wn.heap.size + 1) (base := B) (v := .slice va m vc) (fv := .slice na nn nc') (ys := ys) (l := ln) ((((Kept.refl [] wn).alloc _).alloc _).cell cT (by simp)) (cell_new (wn.alloc _) _ _ _ (by simp) 0) (cell_new (wn.alloc _) _ _ _ (by simp) 2) (by have := HTS.out; have := HTT.out; omega) (HF.out.kept0 ((((KI.out).trans KIN.out).alloc _).alloc _)) (HFN.out.kept (((Kept.refl [] wn).alloc _).alloc _) (by simp)) (fun g hg => by have := HXL.out g hg; have := KI.out.size; have := HTT.out; omega) HFT.out KX.out).mono ?_
          rw [HGO.out, HCN.out]
          rintro e we ⟨rfl, ke⟩
          have kee : Kept [] w we := ((((HKi.out.trans KIN.out).alloc _).alloc _).setCell (p := ⟨TT, 1, none⟩) (Or.inr (by have := HKi.out.size; have := HTT.out; show _ ≤ TT; omega)) _).trans (KX.out.trans ke)
          have KEE := Lib.hid kee; clear kee ke
          obtain ⟨E, hE⟩ : ∃ E, ends (z1.map nz) = E := ⟨_, rfl⟩
          rw [hE]
          clear hE
          cases E
          all_goals
            go_wp2_with fail
            go_ret
            exact ⟨rfl, KEE.out.below (Nat.le_refl _) (by simp)⟩
        · have HO : Hid (∀ o o', OwnR 68 12 encL ((wo.alloc o).alloc o') B (.slice va m vc) ys) := Lib.hid (fun o o' => HF.out.kept0 (((Kept.refl [] wo).alloc o).alloc o'))
          have HBK : Hid (∀ o o' : Obj, ((wo.alloc o).alloc o').heap[wo.heap.size + 1]? = some o') := Lib.hid (fun o o' => by simpa using heap_alloc_new (wo.alloc o) o')
          have HBL : Hid (∀ o o', B ≤ ((wo.alloc o).alloc o').heap.size) := Lib.hid (fun o o' => by
            have := HBB.out
            have := HB.out.size
            simp only [World.size_alloc]
            omega)
          have H3 : Hid (ys.length + 1 ≤ maxLen) := Lib.hid (by rw [HLN.out]; unfold maxLen; omega)
          have H4 : Hid ((ys.length + 1) * 168 ≤ 140737488355328) := Lib.hid (by rw [HLN.out]; omega)
          go_wp2_with (first
            | (at_builtin; refine wpList_push (T := 68) (c := 12) (enc := encL) rfl _ _ 45 rfl B i0 _ 168 Try.underlying45 HI.out HI0.out HI1.out HI2.out rfl (by decide) encL_len encL_one (.slice va m vc) ys rfl (HO.out _ _) (wo.heap.size + 1) ⟨(none, 0, 0), 1, wo.heap.size, ⟨#[102]⟩⟩ 1 _ rfl (HBK.out _ _) rfl H3.out H4.out (HBL.out _ _) ?_)
            | fail)
          intro vb wb hvb kb
          have HG : Hid (goodB (ys ++ [⟨(none, 0, 0), 1, wo.heap.size, ⟨#[102]⟩⟩]) = false) := Lib.hid (goodB_bad _ _ _ _ (by decide))
          have hkb : Kept [] w3 wb := ((HB.out.alloc _).alloc _).then kb (fun g hg => by
            simp only [Option.mem_toList] at hg
            have := (OwnR.blk HF.out hg).1
            have := HBB.out
            exact Or.inr (by omega))
          have HKB := Lib.hid hkb; clear hkb kb
          obtain ⟨yy, hyy⟩ : ∃ yy, ys ++ [⟨(none, 0, 0), 1, wo.heap.size, ⟨#[102]⟩⟩] = yy := ⟨_, rfl⟩
          rw [hyy] at hvb HG
          clear hyy
          obtain ⟨xa, xc, hv, -⟩ := hvb.slice
          obtain ⟨xn, hn⟩ : ∃ n, yy.length = n := ⟨_, rfl⟩
          rw [hn] at hv
          subst hv
          clear hn
          have HVB := Lib.hid hvb; clear hvb HO HBK HBL H3 H4
          have HKw := Lib.hid (K3.out.trans HKB.out)
          have HXL : Hid (∀ g, (Value.slice xa xn xc).ownBlock = some g → g < wb.heap.size) := Lib.hid (fun g hg => (OwnR.blk HVB.out hg).2)
          go_wp2_with fail
          refine (toFodder_any _ _ _ _ z4 (W4.out.kept0 HKw.out) (by omega)).mono ?_
          rintro e wt ⟨vt, lt, rfl, hft, hct, kt⟩
          obtain ⟨ta, tc, hv, -⟩ := hft.slice
          obtain ⟨tn, hn⟩ : ∃ n, lt.length = n := ⟨_, rfl⟩
          rw [hn] at hv
          subst hv
          clear hn hft hct
          have KT := Lib.hid kt; clear kt
          go_wp2_with fail
          refine (importBind_any _ _ _ none 0 0).mono ?_
          rintro e wi ⟨x, rfl, ki⟩
          have KI := Lib.hid (KT.out.trans ki); clear ki
          have HKi := Lib.hid (HKw.out.trans KI.out); clear HKw
          go_wp2_with fail
          refine (toFodder_any _ _ _ _ z1 (W1.out.kept0 ((HKi.out.alloc _).alloc _)) (by omega)).mono ?_
          rintro e wn ⟨vn, ln, rfl, hfn, hcn, kn⟩
          have cT : wn.cell? ⟨wi.heap.size + 1, 1, none⟩ = some .nilIface := kn.cell (cell_new (wi.alloc _) _ _ _ (by simp) 1) (by simp)
          have fT : wn.frozen? ⟨wi.heap.size + 1, 1, none⟩ = false := (kn.frozen (p := ⟨wi.heap.size + 1, 1, none⟩) (by simp) (by simp)).trans (frozen_new (wi.alloc _) _ _ _ (by simp) 1)
          have hfT : ∀ g, vn.ownBlock = some g → g ≠ wi.heap.size + 1 := fun g hg e => by
            have := (World.ownsRow.lt hfn g hg).1
            simp only [World.size_alloc] at this
            omega
          have hTs : wi.heap.size + 2 ≤ wn.heap.size := by have := kn.size; simpa using this
          have kin : Kept [] wi wn := (((Kept.refl [] wi).alloc _).alloc _).trans kn
          obtain ⟨na, nc', hv, -⟩ := hfn.slice
          obtain ⟨nn, hn⟩ : ∃ n, ln.length = n := ⟨_, rfl⟩
          rw [hn] at hv
          subst hv
          clear hn
          have hlnn : ln.length = len1 := by have := congrArg List.length hcn; simp only [codes, List.length_map] at this; rw [this, HL1.out]
          have HLNN := Lib.hid hlnn; clear hlnn
          obtain ⟨TT, hTT⟩ : ∃ TT, wi.heap.size + 1 = TT := ⟨_, rfl⟩
          have HTT0 : Hid (TT + 1 ≤ wn.heap.size) := Lib.hid (by omega)
          rw [hTT] at cT fT hfT ⊢
          have HTT := Lib.hid hTT; clear hTT
          have tl : TT < wn.heap.size := by have := HTT0.out; omega
          have cTa := fun o => ((Kept.refl [] wn).alloc o).cell cT (by simp)
          have fTa := fun o => (((Kept.refl [] wn).alloc o).frozen (p := ⟨TT, 1, none⟩) tl (by simp)).trans fT
          have cTb := fun o o' => (((Kept.refl [] wn).alloc o).alloc o').cell cT (by simp)
          have fTb := fun o o' => ((((Kept.refl [] wn).alloc o).alloc o').frozen (p := ⟨TT, 1, none⟩) tl (by simp)).trans fT
          clear tl
          have HFN := Lib.hid hfn; clear hfn
          have HCN := Lib.hid hcn; clear hcn
          have HFT := Lib.hid hfT; clear hfT
          have KIN := Lib.hid kin; clear kin kn
          have HTS := Lib.hid hTs; clear hTs
          go_wp2_with fail
          have kS := ((HKi.out.trans KIN.out).alloc (.cells #[.slice none 0 0, .pointer none, .slice none 0 0, .pointer none, .string ⟨#[]⟩, .int .i64 0, .int .i64 0, .int .i64 0, .int .i64 0] 80))
          clear kS
          refine (top_local (T := TT) (nb := wn.heap.size + 1) (base := B) (v := .slice xa xn xc) (fv := .slice na nn nc') (ys := yy) (l := ln) ((((Kept.refl [] wn).alloc _).alloc _).cell cT (by simp)) (cell_new (wn.alloc _) _ _ _ (by simp) 0) (cell_new (wn.alloc _) _ _ _ (by simp) 2) (by have := HTS.out; have := HTT.out; omega) (HVB.out.kept0 ((((KI.out).trans KIN.out).alloc _).alloc _)) (HFN.out.kept (((Kept.refl [] wn).alloc _).alloc _) (by simp)) (fun g hg => by have := HXL.out g hg; have := KI.out.size; have := HTT.out; omega) HFT.out (Kept.refl [] _)).mono ?_
          rw [HG.out, HCN.out]
          rintro e we ⟨rfl, ke⟩
          have kee : Kept [] w we := ((((HKi.out.trans KIN.out).alloc _).alloc _).setCell (p := ⟨TT, 1, none⟩) (Or.inr (by have := HKi.out.size; have := HTT.out; show _ ≤ TT; omega)) _).trans (ke)
          have KEE := Lib.hid kee; clear kee ke
          go_wp2_with fail
          go_ret
          exact ⟨rfl, KEE.out.below (Nat.le_refl _) (by simp)⟩
        · have HO : Hid (∀ o o', OwnR 68 12 encL ((wo.alloc o).alloc o') B (.slice va m vc) ys) := Lib.hid (fun o o' => HF.out.kept0 (((Kept.refl [] wo).alloc o).alloc o'))
          have HBK : Hid (∀ o o' : Obj, ((wo.alloc o).alloc o').heap[wo.heap.size + 1]? = some o') := Lib.hid (fun o o' => by simpa using heap_alloc_new (wo.alloc o) o')
          have HBL : Hid (∀ o o', B ≤ ((wo.alloc o).alloc o').heap.size) := Lib.hid (fun o o' => by
            have := HBB.out
            have := HB.out.size
            simp only [World.size_alloc]
            omega)
          have H3 : Hid (ys.length + 1 ≤ maxLen) := Lib.hid (by rw [HLN.out]; unfold maxLen; omega)
          have H4 : Hid ((ys.length + 1) * 168 ≤ 140737488355328) := Lib.hid (by rw [HLN.out]; omega)
          go_wp2_with (first
            | (at_builtin; refine wpList_push (T := 68) (c := 12) (enc := encL) rfl _ _ 45 rfl B i0 _ 168 Try.underlying45 HI.out HI0.out HI1.out HI2.out rfl (by decide) encL_len encL_one (.slice va m vc) ys rfl (HO.out _ _) (wo.heap.size + 1) ⟨(none, 0, 0), 2, wo.heap.size, ⟨#[120]⟩⟩ 1 _ rfl (HBK.out _ _) rfl H3.out H4.out (HBL.out _ _) ?_)
            | fail)
          intro vb wb hvb kb
          have HG : Hid (goodB (ys ++ [⟨(none, 0, 0), 2, wo.heap.size, ⟨#[120]⟩⟩]) = false) := Lib.hid (goodB_bad _ _ _ _ (by decide))
          have hkb : Kept [] w3 wb := ((HB.out.alloc _).alloc _).then kb (fun g hg => by
            simp only [Option.mem_toList] at hg
            have := (OwnR.blk HF.out hg).1
            have := HBB.out
            exact Or.inr (by omega))
          have HKB := Lib.hid hkb; clear hkb kb
          obtain ⟨yy, hyy⟩ : ∃ yy, ys ++ [⟨(none, 0, 0), 2, wo.heap.size, ⟨#[120]⟩⟩] = yy := ⟨_, rfl⟩
          rw [hyy] at hvb HG
          clear hyy
          obtain ⟨xa, xc, hv, -⟩ := hvb.slice
          obtain ⟨xn, hn⟩ : ∃ n, yy.length = n := ⟨_, rfl⟩
          rw [hn] at hv
          subst hv
          clear hn
          have HVB := Lib.hid hvb; clear hvb HO HBK HBL H3 H4
          have HKw := Lib.hid (K3.out.trans HKB.out)
          have HXL : Hid (∀ g, (Value.slice xa xn xc).ownBlock = some g → g < wb.heap.size) := Lib.hid (fun g hg => (OwnR.blk HVB.out hg).2)
          go_wp2_with fail
          refine (toFodder_any _ _ _ _ z4 (W4.out.kept0 HKw.out) (by omega)).mono ?_
          rintro e wt ⟨vt, lt, rfl, hft, hct, kt⟩
          obtain ⟨ta, tc, hv, -⟩ := hft.slice
          obtain ⟨tn, hn⟩ : ∃ n, lt.length = n := ⟨_, rfl⟩
          rw [hn] at hv
          subst hv
          clear hn hft hct
          have KT := Lib.hid kt; clear kt
          go_wp2_with fail
          refine (importBind_any _ _ _ none 0 0).mono ?_
          rintro e wi ⟨x, rfl, ki⟩
          have KI := Lib.hid (KT.out.trans ki); clear ki
          have HKi := Lib.hid (HKw.out.trans KI.out); clear HKw
          go_wp2_with fail
          refine (toFodder_any _ _ _ _ z1 (W1.out.kept0 ((HKi.out.alloc _).alloc _)) (by omega)).mono ?_
          rintro e wn ⟨vn, ln, rfl, hfn, hcn, kn⟩
          have cT : wn.cell? ⟨wi.heap.size + 1, 1, none⟩ = some .nilIface := kn.cell (cell_new (wi.alloc _) _ _ _ (by simp) 1) (by simp)
          have fT : wn.frozen? ⟨wi.heap.size + 1, 1, none⟩ = false := (kn.frozen (p := ⟨wi.heap.size + 1, 1, none⟩) (by simp) (by simp)).trans (frozen_new (wi.alloc _) _ _ _ (by simp) 1)
          have hfT : ∀ g, vn.ownBlock = some g → g ≠ wi.heap.size + 1 := fun g hg e => by
            have := (World.ownsRow.lt hfn g hg).1
            simp only [World.size_alloc] at this
            omega
          have hTs : wi.heap.size + 2 ≤ wn.heap.size := by have := kn.size; simpa using this
          have kin : Kept [] wi wn := (((Kept.refl [] wi).alloc _).alloc _).trans kn
          obtain ⟨na, nc', hv, -⟩ := hfn.slice
          obtain ⟨nn, hn⟩ : ∃ n, ln.length = n := ⟨_, rfl⟩
          rw [hn] at hv
          subst hv
          clear hn
          have hlnn : ln.length = len1 := by have := congrArg List.length hcn; simp only [codes, List.length_map] at this; rw [this, HL1.out]
          have HLNN := Lib.hid hlnn; clear hlnn
          obtain ⟨TT, hTT⟩ : ∃ TT, wi.heap.size + 1 = TT := ⟨_, rfl⟩
          have HTT0 : Hid (TT + 1 ≤ wn.heap.size) := Lib.hid (by omega)
          rw [hTT] at cT fT hfT ⊢
          have HTT := Lib.hid hTT; clear hTT
          have tl : TT < wn.heap.size := by have := HTT0.out; omega
          have cTa := fun o => ((Kept.refl [] wn).alloc o).cell cT (by simp)
          have fTa := fun o => (((Kept.refl [] wn).alloc o).frozen (p := ⟨TT, 1, none⟩) tl (by simp)).trans fT
          have cTb := fun o o' => (((Kept.refl [] wn).alloc o).alloc o').cell cT (by simp)
          have fTb := fun o o' => ((((Kept.refl [] wn).alloc o).alloc o').frozen (p := ⟨TT, 1, none⟩) tl (by simp)).trans fT
          clear tl
          have HFN := Lib.hid hfn; clear hfn
          have HCN := Lib.hid hcn; clear hcn
          have HFT := Lib.hid hfT; clear hfT
          have KIN := Lib.hid kin; clear kin kn
          have HTS := Lib.hid hTs; clear hTs
          go_wp2_with fail
          have kS := ((HKi.out.trans KIN.out).alloc (.cells #[.slice none 0 0, .pointer none, .slice none 0 0, .pointer none, .string ⟨#[]⟩, .int .i64 0, .int .i64 0, .int .i64 0, .int .i64 0] 80))
          clear kS
          refine (top_local (T := TT) (nb := wn.heap.size + 1) (base := B) (v := .slice xa xn xc) (fv := .slice na nn nc') (ys := yy) (l := ln) ((((Kept.refl [] wn).alloc _).alloc _).cell cT (by simp)) (cell_new (wn.alloc _) _ _ _ (by simp) 0) (cell_new (wn.alloc _) _ _ _ (by simp) 2) (by have := HTS.out; have := HTT.out; omega) (HVB.out.kept0 ((((KI.out).trans KIN.out).alloc _).alloc _)) (HFN.out.kept (((Kept.refl [] wn).alloc _).alloc _) (by simp)) (fun g hg => by have := HXL.out g hg; have := KI.out.size; have := HTT.out; omega) HFT.out (Kept.refl [] _)).mono ?_
          rw [HG.out, HCN.out]
          rintro e we ⟨rfl, ke⟩
          have kee : Kept [] w we := ((((HKi.out.trans KIN.out).alloc _).alloc _).setCell (p := ⟨TT, 1, none⟩) (Or.inr (by have := HKi.out.size; have := HTT.out; show _ ≤ TT; omega)) _).trans (ke)
          have KEE := Lib.hid kee; clear kee ke
          go_wp2_with fail
          go_ret
          exact ⟨rfl, KEE.out.below (Nat.le_refl _) (by simp)⟩
        · have HKw := Lib.hid (K3.out.trans HB.out)
          have HXL : Hid (∀ g, (Value.slice va m vc).ownBlock = some g → g < wo.heap.size) := Lib.hid (fun g hg => (OwnR.blk HF.out hg).2)
          go_wp2_with fail
          refine (toFodder_any _ _ _ _ z4 (W4.out.kept0 HKw.out) (by omega)).mono ?_
          rintro e wt ⟨vt, lt, rfl, hft, hct, kt⟩
          obtain ⟨ta, tc, hv, -⟩ := hft.slice
          obtain ⟨tn, hn⟩ : ∃ n, lt.length = n := ⟨_, rfl⟩
          rw [hn] at hv
          subst hv
          clear hn hft hct
          have KT := Lib.hid kt; clear kt
          go_wp2_with fail
          refine (importBind_any _ _ _ none 0 0).mono ?_
          rintro e wi ⟨x, rfl, ki⟩
          have KI := Lib.hid (KT.out.trans ki); clear ki
          have HKi := Lib.hid (HKw.out.trans KI.out); clear HKw
          go_wp2_with fail
          refine (toFodder_any _ _ _ _ z1 (W1.out.kept0 ((HKi.out.alloc _).alloc _)) (by omega)).mono ?_
          rintro e wn ⟨vn, ln, rfl, hfn, hcn, kn⟩
          have cT : wn.cell? ⟨wi.heap.size + 1, 1, none⟩ = some .nilIface := kn.cell (cell_new (wi.alloc _) _ _ _ (by simp) 1) (by simp)
          have fT : wn.frozen? ⟨wi.heap.size + 1, 1, none⟩ = false := (kn.frozen (p := ⟨wi.heap.size + 1, 1, none⟩) (by simp) (by simp)).trans (frozen_new (wi.alloc _) _ _ _ (by simp) 1)
          have hfT : ∀ g, vn.ownBlock = some g → g ≠ wi.heap.size + 1 := fun g hg e => by
            have := (World.ownsRow.lt hfn g hg).1
            simp only [World.size_alloc] at this
            omega
          have hTs : wi.heap.size + 2 ≤ wn.heap.size := by have := kn.size; simpa using this
          have kin : Kept [] wi wn := (((Kept.refl [] wi).alloc _).alloc _).trans kn
          obtain ⟨na, nc', hv, -⟩ := hfn.slice
          obtain ⟨nn, hn⟩ : ∃ n, ln.length = n := ⟨_, rfl⟩
          rw [hn] at hv
          subst hv
          clear hn
          have hlnn : ln.length = len1 := by have := congrArg List.length hcn; simp only [codes, List.length_map] at this; rw [this, HL1.out]
          have HLNN := Lib.hid hlnn; clear hlnn
          obtain ⟨TT, hTT⟩ : ∃ TT, wi.heap.size + 1 = TT := ⟨_, rfl⟩
          have HTT0 : Hid (TT + 1 ≤ wn.heap.size) := Lib.hid (by omega)
          rw [hTT] at cT fT hfT ⊢
          have HTT := Lib.hid hTT; clear hTT
          have tl : TT < wn.heap.size := by have := HTT0.out; omega
          have cTa := fun o => ((Kept.refl [] wn).alloc o).cell cT (by simp)
          have fTa := fun o => (((Kept.refl [] wn).alloc o).frozen (p := ⟨TT, 1, none⟩) tl (by simp)).trans fT
          have cTb := fun o o' => (((Kept.refl [] wn).alloc o).alloc o').cell cT (by simp)
          have fTb := fun o o' => ((((Kept.refl [] wn).alloc o).alloc o').frozen (p := ⟨TT, 1, none⟩) tl (by simp)).trans fT
          clear tl
          have HFN := Lib.hid hfn; clear hfn
          have HCN := Lib.hid hcn; clear hcn
          have HFT := Lib.hid hfT; clear hfT
          have KIN := Lib.hid kin; clear kin kn
          have HTS := Lib.hid hTs; clear hTs
          go_wp2_with fail
          have hgr := fun (W w' : World) (u : Value) (x : Nat) cT q => top_null (W := W) (w' := w') (T := TT) (x := x) (u := u) cT q
          have HGR := Lib.hid hgr; clear hgr
          refine (HGR.out _ _ _ _ (((Kept.refl [] wn).alloc _).cell cT (by simp)) (Kept.refl [] _)).mono ?_
          rintro e we ⟨rfl, ke⟩
          have kee : Kept [] w we := ((HKi.out.trans KIN.out).alloc _).setCell (p := ⟨TT, 1, none⟩) (Or.inr (by have := HKi.out.size; have := HTT.out; show _ ≤ TT; omega)) _ |>.trans ke
          have KEE := Lib.hid kee; clear kee ke
          go_wp2_with fail
          go_ret
          exact ⟨rfl, KEE.out.below (Nat.le_refl _) (by simp)⟩
end fnGroupEndsAfterExact
end Go.Proofs.Ytddcpnhpjgeldaa
