/- The walk of the law FnArrayExactSpec, case by case. -/
import Derived.Test.YtnfhhmadkiogbaaFmtAX1
namespace Go.Proofs.YtnfhhmadkiogbaaFmt
open Go.ChangeShapes Go.WideShapes Go.ChangeAt Go.RowKit

set_option maxHeartbeats 400000 in
theorem zzBytes_ArX (w : World) (n : Int) (b : Bool) (m : Int) (a : Option Addr) (len cap : Nat) (a1 : Option Addr) (len1 cap1 : Nat) (h : len ≤ 9223372036854775807) (h1 : len1 ≤ 9223372036854775807) :
    Calls Tryf.prog 4 #[.int .i64 n, .bool b, .int .i32 m, .slice a len cap, .slice a1 len1 cap1] w (SomeBool w) := by
  go_enter Tryf.func4, Tryf.ntmps4
  go_wp2
  all_goals
    go_ret
    exact ⟨_, rfl, rfl⟩
theorem Tryf.infoCS : (Tryf.prog.info? 46).map (fun i => (i.zero, i.size, i.bytes)) = some (some (.agg #[.nilIface, .slice none 0 0]), 2, 40) := by kernel_rfl
theorem mid_row (w : World) (z : Int) (h : (Lit.int .i32 z).wf = true) : IsRow .i32 (w.alloc (.cells #[.int .i32 z] 21)) (some ⟨w.heap.size, 0, none⟩) 1 1 [z] := by
  refine Or.inr ⟨⟨w.heap.size, 0, none⟩, rfl, Nat.le_refl _, by unfold maxLen; omega, rfl, fun i hi => ?_, fun n hn => ?_⟩
  · obtain rfl : i = 0 := by simpa using hi
    rw [add_off]
    exact cell_of_block (heap_alloc_new w _) 0
  · obtain rfl : n = z := by simpa using hn
    exact h
theorem fod_litX (w : World) (base : Nat) (hb : base ≤ w.heap.size) (e : FE) : Fod (w.alloc (.cells #[.slice e.ca e.cl e.cc, .int .i64 e.k, .int .i64 e.b, .int .i64 e.i] 50)) base (.slice (some ⟨w.heap.size, 0, none⟩) 1 1) [e] := by
  have := World.ownsRow_lit (e := 50) (size := 4) w #[.slice e.ca e.cl e.cc, .int .i64 e.k, .int .i64 e.b, .int .i64 e.i] 1 hb (by unfold maxLen; omega) rfl
  exact this
abbrev nullX : Obj := .cells #[.slice none 0 0, .pointer none, .slice none 0 0, .pointer none, .string ⟨#[]⟩, .int .i64 0, .int .i64 0, .int .i64 0, .int .i64 0] 42
/-- The codes of the i-th comma fodder of m + 1. -/
def lsOf (m : Nat) (mid : Int) (L : List FE) (i : Nat) : List FE := if i < m then [cfe mid] else L
/-- k of n elements are laid so. -/
def Laid (w : World) (eb n k m : Nat) (mid : Int) (L : List FE) : Prop := ∃ xs vs ls, ArP w eb n k xs vs ls ∧ ∀ i, i < k → ls i = lsOf m mid L i

set_option maxRecDepth 100000 in
set_option maxHeartbeats 8000000 in
theorem walk_fff (a0 : Int) (a2 : Int) (a3 : Option Addr) (len3 cap3 : Nat) (z3 : List Int) (a4 : Option Addr) (len4 cap4 : Nat) (z4 : List Int) (w : World) (_ : (Lit.int .i64 a0).wf = true) (h2 : (Lit.int .i32 a2).wf = true) (w3 : IsRow .i32 w a3 len3 cap3 z3) (w4 : IsRow .i32 w a4 len4 cap4 z4)
    (hA : anyNL ((z3.take len3).map cfe) = false) (hC : anyNL ((z4.take len4).map cfe) = false) :
    Calls Tryf.prog 3 #[.int .i64 a0, .bool false, .int .i32 a2, .slice a3 len3 cap3, .slice a4 len4 cap4] w fun e w' => e = .returned (.bool true) ∧ Below w.heap.size w w' := by
  obtain ⟨hlc, hcm, hzl, _, hcell⟩ := w3.open
  obtain ⟨hlc1, hcm1, hzl1, _, hcell1⟩ := w4.open
  unfold maxLen at hcm hcm1
  have hb0 : len3 ≤ 9223372036854775807 := by omega
  have hb1 : len4 ≤ 9223372036854775807 := by omega
  have hz1 : len3 ≤ z3.length := by omega
  have hz2 : len4 ≤ z4.length := by omega
  have W3 := Lib.hid w3; clear w3
  have W4 := Lib.hid w4; clear w4
  have HZ1 := Lib.hid hz1; clear hz1
  have HZ2 := Lib.hid hz2; clear hz2
  have H2 := Lib.hid h2; clear h2
  clear hcell hcell1 hzl hzl1
  obtain ⟨i0, hi, hz0, hz1, hz2⟩ := info_parts Tryf.infoCS
  have HI := Lib.hid hi; clear hi
  have HI0 := Lib.hid hz0; clear hz0
  have HI1 := Lib.hid hz1; clear hz1
  have HI2 := Lib.hid hz2; clear hz2
  obtain ⟨L1, hL1⟩ : ∃ L1, (z3.take len3).map cfe = L1 := ⟨_, rfl⟩
  obtain ⟨L2, hL2⟩ : ∃ L2, (z4.take len4).map cfe = L2 := ⟨_, rfl⟩
  have hl1 : L1.length = len3 := by rw [← hL1, List.length_map, List.length_take]; have := HZ1.out; omega
  have hl2 : L2.length = len4 := by rw [← hL2, List.length_map, List.length_take]; have := HZ2.out; omega
  have HL1 := Lib.hid hL1
  have HL2 := Lib.hid hL2
  rw [hL1] at hA
  rw [hL2] at hC
  have HC := Lib.hid hC; clear hC
  have HA := Lib.hid hA; clear hA hL1 hL2
  have HE1 := Lib.hid hl1; clear hl1
  have HE2 := Lib.hid hl2; clear hl2
  go_enter Tryf.func3, Tryf.ntmps3
  go_wp2_with fail
  refine (zzBytes_ArX _ _ _ _ _ _ _ _ _ _ hb0 hb1).mono ?_
  rintro e w' ⟨b, rfl, rfl⟩
  cases b
  · go_wp2_with fail
    go_ret
    exact ⟨rfl, Below.refl _ _⟩
  by_cases g619 : 65536 < len3
  · go_wp2_with fail
    go_ret
    exact ⟨rfl, Below.refl _ _⟩
  by_cases g932 : 65536 < len4
  · go_wp2_with fail
    go_ret
    exact ⟨rfl, Below.refl _ _⟩
  by_cases g510 : a0 < 0
  · go_wp2_with fail
    go_ret
    exact ⟨rfl, Below.refl _ _⟩
  by_cases g173 : 4096 < a0
  · go_wp2_with fail
    go_ret
    exact ⟨rfl, Below.refl _ _⟩
  obtain ⟨n, rfl⟩ : ∃ n : Nat, a0 = n := ⟨a0.toNat, by omega⟩
  have hn9 : n ≤ 4096 := by omega
  have N3 : len3 ≤ 65536 := by omega
  have N4 : len4 ≤ 65536 := by omega
  go_wp2_with fail
  refine (zzCodesBreak_any _ _ _ _ z3 W3.out).mono ?_
  rintro e w' ⟨rfl, rfl⟩
  rw [HL1.out, HA.out]
  go_wp2_with fail
  refine (zzCodesBreak_any _ _ _ _ z4 W4.out).mono ?_
  rintro e w' ⟨rfl, rfl⟩
  rw [HL2.out, HC.out]
  by_cases hn0 : n = 0
  · subst hn0
    go_wp2_with (at_make; refine wpList_make_full _ rfl _ _ 26 rfl (w.alloc (.cells #[.int .i32 a2] 21)).heap.size 46 i0 _ 2 Tryf.underlying26 HI.out HI0.out HI1.out _ _ _ _ 0 rfl rfl rfl rfl ?b2 ?b3 (Nat.le_refl _) ?_)
    case b2 => rw [HI2.out]; omega
    case b3 => unfold maxLen; omega
    intro w1 hown hgrow
    have K1 := Lib.hid (((Kept.refl [] w).alloc (.cells #[.int .i32 a2] 21)).grown hgrow (by simp)); clear hown hgrow
    obtain ⟨eb, hE2⟩ : ∃ eb, w.heap.size + 1 = eb := ⟨_, rfl⟩
    rw [hE2]
    clear hE2
    go_wp2_with fail
    go_loopw [16] (fun i wr => i = .int .i64 0 ∧ Kept [] w wr) (fun _ _ => 0)
    case atStart => exact ⟨rfl, K1.out⟩
    case round =>
      obtain ⟨rfl, hkw⟩ := hrel
      have HKW := Lib.hid hkw; clear hkw
      obtain ⟨wo, rfl⟩ : ∃ wo : World, wo = wr := ⟨_, rfl⟩
      go_wp2_with fail
      refine (zzFodder_any _ _ _ _ z4 (HKW.out.ints W4.out (by simp)) (by omega)).mono ?_
      rintro e x2 ⟨v2, rfl, hf2, k2⟩
      rw [HL2.out] at hf2
      obtain ⟨fa, fc, hv, -⟩ := hf2.slice
      obtain ⟨fn, hfn⟩ : ∃ fn, L2.length = fn := ⟨_, rfl⟩
      rw [hfn] at hv
      subst hv
      clear hfn
      have HF2 := Lib.hid hf2; clear hf2
      have K2 := Lib.hid (HKW.out.trans k2); clear k2
      go_wp2_with fail
      obtain ⟨nb, hnb⟩ : ∃ nb, x2.heap.size = nb := ⟨_, rfl⟩
      obtain ⟨W5, hW5⟩ : ∃ W5, x2.alloc (.cells #[.slice (some ⟨eb, 0, none⟩) 0 0, .slice fa fn fc, .slice none 0 0, .pointer none, .slice none 0 0, .pointer none, .string ⟨#[]⟩, .int .i64 0, .int .i64 0, .int .i64 0, .int .i64 0, .bool false] 55) = W5 := ⟨_, rfl⟩
      have k5 : Kept [] x2 W5 := hW5 ▸ (Kept.refl [] _).alloc _
      have x5 : W5.heap[nb]? = some (.cells #[.slice (some ⟨eb, 0, none⟩) 0 0, .slice fa fn fc, .slice none 0 0, .pointer none, .slice none 0 0, .pointer none, .string ⟨#[]⟩, .int .i64 0, .int .i64 0, .int .i64 0, .int .i64 0, .bool false] 55 (0, 0)) := by rw [← hW5, ← hnb]; exact heap_alloc_new _ _
      rw [hW5, hnb]
      have d0 := cell_of_block x5 0
      have d1 := cell_of_block x5 1
      have d11 := cell_of_block x5 11
      have HF5 := Lib.hid (HF2.out.kept k5 (by simp)); clear HF2
      have K5 := Lib.hid (K2.out.trans k5); clear K2 k5 x5 hW5
      refine (zzArray0 W5 nb _ 0 d0).mono ?_
      rintro e w6 ⟨rfl, k6⟩
      have e0 := k6.cell (d0.trans rfl) (by simp)
      have e1 := k6.cell (d1.trans rfl) (by simp)
      have e11 := k6.cell (d11.trans rfl) (by simp)
      have HF6 := Lib.hid (HF5.out.kept k6 (by simp)); clear HF5
      have K6 := Lib.hid (K5.out.trans k6); clear K5 k6 d0 d1 d11
      go_wp2_with fail
      refine (zzFodderIsCodes_any _ _ _ _ _ len4 _ z4 none 0 0 [] HF6.out (K6.out.ints W4.out (by simp)) (Or.inl ⟨rfl, rfl, rfl, rfl⟩) HE2.out (by omega) ?_ ?_).mono ?_
      · intro j x hj hx
        rw [← HL2.out] at hx
        exact codes_same z4 len4 j x HZ2.out hj hx
      · intro j x hj; omega
      rintro e w9 ⟨rfl, k9⟩
      go_wp2_with fail
      go_ret
      exact ⟨rfl, (K6.out.trans k9).below (Nat.le_refl _) (by simp)⟩
  obtain ⟨m, hm⟩ : ∃ m, n = m + 1 := ⟨n - 1, by omega⟩
  have HM := Lib.hid hm; clear hm
  have hnp : (0 : Int) < (n : Int) := by omega
  go_wp2_with fail
  refine (zzMergeRisk_any _ false _ _ _ _ _ _ z4 W4.out (by omega) (by omega)).mono ?_
  rintro e w' ⟨rfl, rfl⟩
  rw [show risk false len3 len4 z4 = false from rfl]
  go_wp2_with (at_make; refine wpList_make_full _ rfl _ _ 26 rfl (w.alloc (.cells #[.int .i32 a2] 21)).heap.size 46 i0 _ 2 Tryf.underlying26 HI.out HI0.out HI1.out _ _ _ _ n rfl rfl rfl rfl ?b2 ?b3 (Nat.le_refl _) ?_)
  case b2 => rw [HI2.out]; omega
  case b3 => unfold maxLen; omega
  intro w1 hown hgrow
  obtain ⟨eb, hE2⟩ : ∃ eb, w.heap.size + 1 = eb := ⟨_, rfl⟩
  rw [hE2] at hown ⊢
  obtain ⟨wM, hM0⟩ : ∃ wM, w.alloc (.cells #[.int .i32 a2] 21) = wM := ⟨_, rfl⟩
  have k1 : Kept [] wM w1 := hM0 ▸ (Kept.refl _ _).grown hgrow (by simp)
  have HMR : Hid (IsRow .i32 wM (some ⟨w.heap.size, 0, none⟩) 1 1 [a2]) := Lib.hid (hM0 ▸ mid_row w a2 H2.out)
  have HKM : Hid (Kept [] w wM) := Lib.hid (hM0 ▸ (Kept.refl [] w).alloc _)
  have hE4 : wM.heap.size = eb := by rw [← hM0, ← hE2]; simp
  have HF : Hid (Laid w1 eb n 0 m a2 L1) := Lib.hid ⟨fun _ => 0, fun _ => .slice none 0 0, fun _ => [], {
    es := fun i hi => by omega
    bf := fun j hj => by
      have hl := hown.1
      have := World.ownsRow.cells hown (g := eb) rfl j _ (List.getElem?_eq_getElem (by rw [hl]; omega))
      rw [add_off, Nat.zero_add] at this
      exact ⟨_, this⟩
    bz := fun o => World.ownsRow.frozenAt hown o
    el := (World.ownsRow.lt hown eb rfl).2
    inc := fun i j hij hj => by omega }, fun i hi => by omega⟩
  have K1 := Lib.hid k1; clear k1 hown hgrow
  have HE3 := Lib.hid hE4; clear hE2 hE4 hM0
  go_wp2_with fail
  go_loopw [16] (fun i wr => ∃ k : Nat, k ≤ n ∧ i = .int .i64 k ∧ Hid (Laid wr eb n k m a2 L1) ∧ Kept [] wM wr) (fun i _ => n - (intOf i).toNat)
  case atStart => exact ⟨0, Nat.zero_le _, rfl, HF, K1.out⟩
  case round =>
    obtain ⟨k, hk, rfl, HLD, hkw⟩ := hrel
    obtain ⟨xs, vs, ls, hp, hls⟩ := HLD.out
    have HP := Lib.hid hp; clear hp HLD
    have HLS := Lib.hid hls; clear hls
    have HKW := Lib.hid hkw; clear hkw
    obtain ⟨wo, rfl⟩ : ∃ wo : World, wo = wr := ⟨_, rfl⟩
    by_cases hlt : k < n
    · have b0 : ∀ o, ∃ u, (wo.alloc o).cell? ⟨eb, k * 2, none⟩ = some u := fun o => by
        obtain ⟨u, hu⟩ := HP.out.bf (k * 2) (by omega)
        exact ⟨u, ((Kept.refl [] wo).alloc o).cell hu (by simp)⟩
      have hel := HP.out.el
      have fz : ∀ o j, (wo.alloc o).frozen? ⟨eb, j, none⟩ = false := fun o j => (((Kept.refl [] wo).alloc o).frozen (p := ⟨eb, j, none⟩) hel (by simp)).trans (HP.out.bz j)
      obtain ⟨u0, hu0⟩ := b0 nullX
      have fz0 := fz nullX (k * 2)
      have nex : eb ≠ wo.heap.size := by omega
      have nex2 : wo.heap.size ≠ eb := by omega
      have i1 : (0 : Int) ≤ (k : Int) := by omega
      have i2 : (k : Int) < (n : Int) := by omega
      clear b0 fz
      obtain ⟨WB, hWB⟩ : ∃ WB, (wo.alloc nullX).setCell ⟨eb, k * 2, none⟩ (lnX wo.heap.size) = WB := ⟨_, rfl⟩
      have ka : Kept [] wo (wo.alloc nullX) := (Kept.refl [] _).alloc _
      have cx : (wo.alloc nullX).cell? ⟨wo.heap.size, 0, none⟩ = some (.slice none 0 0) := cell_of_block (heap_alloc_new wo _) 0
      have fx : (wo.alloc nullX).frozen? ⟨wo.heap.size, 0, none⟩ = false := frozen_of_block (heap_alloc_new wo _) 0
      have hq := ((HP.out.kept0 ka).put (k * 2) (Nat.le_refl _) (lnX wo.heap.size))
      rw [hWB] at hq
      have HSTEP : Hid (∀ wc u l, Kept [] WB wc → Fod wc (eb + 1) u l → (∀ g, u.ownBlock = some g → wo.heap.size < g) → l = lsOf m a2 L1 k → Laid (wc.setCell ⟨eb, k * 2 + 1, none⟩ u) eb n (k + 1) m a2 L1 ∧ Kept [] wM (wc.setCell ⟨eb, k * 2 + 1, none⟩ u)) := Lib.hid (fun wc u l kc hu hul hl => by
        obtain ⟨s1, s2⟩ := HP.out.step hlt (Nat.le_refl _) ka cx fx (by rw [hWB]; exact kc) hu hul
        refine ⟨⟨_, _, _, s1, fun i hi => ?_⟩, HKW.out.then s2 (fun g hg => Or.inr (by have := HE3.out; simp at hg; omega))⟩
        by_cases hik : i = k
        · subst hik; rw [upd_same]; exact hl
        · rw [upd_other _ _ hik]; exact HLS.out i (by omega))
      have HBF : Hid (∀ wc, Kept [] WB wc → (∃ u, wc.cell? ⟨eb, k * 2 + 1, none⟩ = some u) ∧ wc.frozen? ⟨eb, k * 2 + 1, none⟩ = false ∧ eb + 1 ≤ wc.heap.size ∧ wo.heap.size < wc.heap.size) := Lib.hid (fun wc kc => by
        have h1 := hq.kept0 kc
        refine ⟨h1.bf _ (by omega), h1.bz _, h1.el, ?_⟩
        have h2 := kc.size
        have h3 : WB.heap.size = wo.heap.size + 1 := by rw [← hWB]; simp [World.setCell]
        omega)
      have HWK : Hid (Kept [] wM WB) := Lib.hid (by
        rw [← hWB]
        exact (HKW.out.alloc _).setCell (Or.inr (by have := HE3.out; dsimp only; omega)) _)
      have HWS : Hid (WB.heap.size = wo.heap.size + 1) := Lib.hid (by rw [← hWB]; simp [World.setCell])
      clear cx fx ka hq
      by_cases hkm : k < m
      · have j1 : (k : Int) < (n : Int) - 1 := by have := HM.out; omega
        go_wp2_with fail
        refine (zzElem_any _ a2).mono ?_
        rintro e x2 ⟨rfl, k2⟩
        obtain ⟨Ek, Eb, Ei, hEc⟩ : ∃ k b i, cfe a2 = ⟨none, 0, 0, k, b, i⟩ := ⟨_, _, _, rfl⟩
        have hst := HSTEP.out (x2.alloc (.cells #[.slice none 0 0, .int .i64 Ek, .int .i64 Eb, .int .i64 Ei] 50)) (.slice (some ⟨x2.heap.size, 0, none⟩) 1 1) [⟨none, 0, 0, Ek, Eb, Ei⟩] (k2.alloc _)
          (fod_litX x2 (eb + 1) (HBF.out _ k2).2.2.1 ⟨none, 0, 0, Ek, Eb, Ei⟩) (fun g hg => by have := (HBF.out _ k2).2.2.2; simp [Value.ownBlock] at hg; omega) (by unfold lsOf; rw [if_pos hkm, hEc])
        have hbf := fun o => HBF.out _ (k2.alloc o)
        obtain ⟨⟨u1, hu1⟩, hf1, -, -⟩ := hbf (.cells #[.slice none 0 0, .int .i64 Ek, .int .i64 Eb, .int .i64 Ei] 50)
        have HST1 := Lib.hid hst.1
        have HST2 := Lib.hid hst.2
        rw [hEc]
        dsimp only
        clear hbf hst hEc k2 hWB
        go_wp2_with fail
        exact ⟨⟨k + 1, by omega, by go_num, HST1, HST2.out⟩, by simp [intOf]; omega⟩
      · have j1 : ¬ (k : Int) < (n : Int) - 1 := by have := HM.out; omega
        go_wp2_with fail
        refine (zzFodder_any _ _ _ _ z3 ((HKM.out.trans HWK.out).ints W3.out (by simp)) (by omega)).mono ?_
        rintro e x2 ⟨v2, rfl, hf2, k2⟩
        rw [HL1.out] at hf2
        obtain ⟨fa, fc, hv, -⟩ := hf2.slice
        obtain ⟨fn, hfn⟩ : ∃ fn, L1.length = fn := ⟨_, rfl⟩
        rw [hfn] at hv
        subst hv
        have hst := HSTEP.out x2 (.slice fa fn fc) L1 k2 (hf2.low (by have := (HBF.out _ k2).2.2.1; have := HWS.out; have := nex; have := hel; omega)) (fun g hg => by have := (World.ownsRow.lt hf2 g hg).1; have := HWS.out; omega) (by unfold lsOf; rw [if_neg hkm])
        obtain ⟨⟨u1, hu1⟩, hf1, -, -⟩ := HBF.out _ k2
        have HST1 := Lib.hid hst.1
        have HST2 := Lib.hid hst.2
        clear hst hf2 k2 hWB hfn
        go_wp2_with fail
        exact ⟨⟨k + 1, by omega, by go_num, HST1, HST2.out⟩, by simp [intOf]; omega⟩
    · obtain rfl : k = n := by omega
      go_wp2_with fail
      refine (zzFodder_any _ _ _ _ z4 ((HKM.out.trans HKW.out).ints W4.out (by simp)) (by omega)).mono ?_
      rintro e x2 ⟨v2, rfl, hf2, k2⟩
      rw [HL2.out] at hf2
      obtain ⟨fa, fc, hv, -⟩ := hf2.slice
      obtain ⟨fn, hfn⟩ : ∃ fn, L2.length = fn := ⟨_, rfl⟩
      rw [hfn] at hv
      subst hv
      clear hfn
      have hel := HP.out.el
      have HPm : Hid (ArP wo eb (m + 1) (m + 1) xs vs ls) := Lib.hid (by have := HP.out; rw [HM.out] at this; exact this)
      have HF2 := Lib.hid hf2; clear hf2
      have K2 := Lib.hid k2; clear k2
      go_wp2_with fail
      obtain ⟨nb, hnb⟩ : ∃ nb, x2.heap.size = nb := ⟨_, rfl⟩
      obtain ⟨W5, hW5⟩ : ∃ W5, x2.alloc (.cells #[.slice (some ⟨eb, 0, none⟩) k k, .slice fa fn fc, .slice none 0 0, .pointer none, .slice none 0 0, .pointer none, .string ⟨#[]⟩, .int .i64 0, .int .i64 0, .int .i64 0, .int .i64 0, .bool false] 55) = W5 := ⟨_, rfl⟩
      have k5 : Kept [] x2 W5 := hW5 ▸ (Kept.refl [] _).alloc _
      have x5 : W5.heap[nb]? = some (.cells #[.slice (some ⟨eb, 0, none⟩) k k, .slice fa fn fc, .slice none 0 0, .pointer none, .slice none 0 0, .pointer none, .string ⟨#[]⟩, .int .i64 0, .int .i64 0, .int .i64 0, .int .i64 0, .bool false] 55 (0, 0)) := by rw [← hW5, ← hnb]; exact heap_alloc_new _ _
      rw [hW5, hnb]
      have s2 := K2.out.size
      have hArr := ArP.done (nb := nb) (tc := false) HPm.out K2.out (HF2.out.low (by omega)) (fun g hg => (World.ownsRow.lt HF2.out g hg).1) k5 (Nat.le_of_eq hnb) x5 (by rw [HM.out]; rfl) rfl rfl
      have hlm : ls m = L1 := by rw [HLS.out m (by rw [HM.out]; exact Nat.lt_succ_self _)]; unfold lsOf; rw [if_neg (Nat.lt_irrefl _)]
      have hlc' : ∀ i, i < m → ls i = [cfe a2] := fun i hi => by rw [HLS.out i (by have := HM.out; omega)]; unfold lsOf; rw [if_pos hi]
      rw [hlm] at hArr
      have hvo : ∀ g, (vs m).ownBlock = some g → eb < g := fun g hg => by
        have := (World.ownsRow.lt (HPm.out.es m (Nat.lt_succ_self _)).2.2.1 g hg).1
        omega
      refine (zzArray W5 (eb + 1) nb eb m false (vs m) _ L1 L2 ls hArr (by have := HM.out; omega) (by rw [HE1.out, HE2.out]; omega) (by have := k5.size; omega) (by rw [← HL2.out]; exact cfe_head _ _)).mono ?_
      rintro e w6 ⟨rfl, ll, lc, vl, vc, hfx, hn6, hk6, -, -⟩
      have hk6' : Kept [] wM w6 := ((HKW.out.trans K2.out).trans k5).then hk6 (fun g hg => Or.inr (by
        have h1 := HE3.out
        have h2 := HKW.out.size
        simp only [List.mem_cons, Option.mem_toList] at hg
        rcases hg with rfl | rfl | hg
        · omega
        · omega
        · have := hvo g hg; omega))
      have hneed : (anyNL L2 || anyNL L1) = false := by rw [HA.out, HC.out]; rfl
      rw [hneed] at hn6
      have KW6 := Lib.hid (HKM.out.trans hk6')
      have KM6 := Lib.hid hk6'; clear hk6' hk6
      have ct := hn6.two.ct
      have cp := hn6.two.cp
      have cq := hn6.two.cq
      have c0 := hn6.c0
      rw [← HM.out] at c0
      have HL := Lib.hid hn6.two.l
      have HCF := Lib.hid hn6.two.c
      have HCM := Lib.hid hn6.cm
      have HLC := Lib.hid hlc'; clear hlc' hlm hArr hn6 hvo x5 k5 hW5 s2 hel
      obtain ⟨pa, pc, rfl, -⟩ := HL.out.slice
      obtain ⟨qa, qc, rfl, -⟩ := HCF.out.slice
      obtain ⟨pn, hpn⟩ : ∃ pn, ll.length = pn := ⟨_, rfl⟩
      obtain ⟨qn, hqn⟩ : ∃ qn, lc.length = qn := ⟨_, rfl⟩
      rw [hpn] at cp HL
      rw [hqn] at cq HCF
      have HFX := Lib.hid hfx; clear hfx
      have HPN := Lib.hid hpn; clear hpn
      have HQN := Lib.hid hqn; clear hqn
      clear HF2 HP HPm HLS HKW K2 hnb
      have hm9 : m ≤ 4096 := by have := HM.out; omega
      have hz9 : ((k : Int) == 0) = false := by have := HM.out; simp; omega
      have hw9 : IntKind.i64.wrap ((k : Int) - 1) = (m : Int) := by have := HM.out; rw [IntKind.wrap_i64]; omega
      go_wp2_with fail
      go_loopw [18] (fun i wr => ∃ j : Nat, j ≤ m ∧ i = .int .i64 j ∧ Kept [] w6 wr) (fun i _ => m - (intOf i).toNat)
      case atStart => exact ⟨0, Nat.zero_le _, rfl, Kept.refl _ _⟩
      case round =>
      obtain ⟨j, hj, rfl, hkw⟩ := hrel
      have HKW := Lib.hid hkw; clear hkw
      obtain ⟨w7, rfl⟩ : ∃ w7 : World, w7 = wr := ⟨_, rfl⟩
      have ct7 := HKW.out.cell ct (by simp)
      have cp7 := HKW.out.cell cp (by simp)
      have cq7 := HKW.out.cell cq (by simp)
      have c07 := HKW.out.cell c0 (by simp)
      clear ct cp cq c0
      by_cases hlt : j < m
      · obtain ⟨v, d1, d2, -⟩ := HCM.out j hlt
        rw [HLC.out j hlt] at d2
        obtain ⟨ea, ec, rfl, -⟩ := d2.slice
        have d17 := HKW.out.cell d1 (by simp)
        have HD := Lib.hid (d2.kept HKW.out (by simp))
        have i1 : (0 : Int) ≤ (j : Int) := by omega
        have i2 : (j : Int) < (k : Int) - 1 := by have := HM.out; omega
        have i3 : (j : Int) < (k : Int) := by have := HM.out; omega
        clear d1 d2
        go_wp2_with fail
        refine (zzFodderIsCodes_any _ _ _ [cfe a2] _ 1 _ [a2] none 0 0 [] HD.out ((KM6.out.trans HKW.out).ints HMR.out (by simp)) (Or.inl ⟨rfl, rfl, rfl, rfl⟩) rfl (by omega) ?_ ?_).mono ?_
        · intro q x hq hx
          obtain rfl : q = 0 := by omega
          obtain rfl : cfe a2 = x := by simpa using hx
          exact ⟨rfl, rfl, rfl, rfl, rfl⟩
        · intro q x hq; omega
        rintro e w8 ⟨rfl, k8⟩
        have K8 := Lib.hid (HKW.out.trans k8); clear k8
        go_wp2_with fail
        go_roundw
        case rel => exact ⟨j + 1, by omega, by go_num, K8.out⟩
        case measure => simp [intOf]; omega
      · obtain rfl : j = m := by omega
        have i1 : (0 : Int) ≤ (j : Int) := by omega
        have i2 : ¬ (j : Int) < (k : Int) - 1 := by have := HM.out; omega
        have i3 : (j : Int) < (k : Int) := by have := HM.out; omega
        have HLw := Lib.hid (HL.out.kept HKW.out (by simp))
        have HCw := Lib.hid (HCF.out.kept HKW.out (by simp))
        have KW7 := Lib.hid (KW6.out.trans HKW.out)
        clear HL HCF
        have hrm2 : ll = L1 ∧ lc = L2 := by
          rcases HFX.out with ⟨hf, hl, hc⟩ | ⟨hf, hl, hc⟩
          · rw [hneed, HA.out] at hf; cases hf
          · exact ⟨hl, hc⟩
        obtain ⟨rfl, rfl⟩ := hrm2
        clear hneed
        go_wp2_with fail
        refine (zzFodderIsCodes_any _ _ _ _ _ len3 _ z3 none 0 0 [] HLw.out (KW7.out.ints W3.out (by simp)) (Or.inl ⟨rfl, rfl, rfl, rfl⟩) HE1.out (by omega) ?_ ?_).mono ?_
        · intro j x hj hx
          rw [← HL1.out] at hx
          exact codes_same z3 len3 j x HZ1.out hj hx
        · intro j x hj; omega
        rintro e w8 ⟨rfl, k8⟩
        have cq8 := k8.cell cq7 (by simp)
        have K8 := Lib.hid (KW7.out.trans k8)
        have HC8 := Lib.hid (HCw.out.kept k8 (by simp))
        clear k8
        go_wp2_with fail
        refine (zzFodderIsCodes_any _ _ _ _ _ len4 _ z4 none 0 0 [] HC8.out (K8.out.ints W4.out (by simp)) (Or.inl ⟨rfl, rfl, rfl, rfl⟩) HE2.out (by omega) ?_ ?_).mono ?_
        · intro j x hj hx
          rw [← HL2.out] at hx
          exact codes_same z4 len4 j x HZ2.out hj hx
        · intro j x hj; omega
        rintro e w9 ⟨rfl, k9⟩
        go_wp2_with fail
        go_ret
        exact ⟨rfl, (K8.out.trans k9).below (Nat.le_refl _) (by simp)⟩

set_option maxRecDepth 100000 in
set_option maxHeartbeats 8000000 in
theorem walk_fft (a0 : Int) (a2 : Int) (a3 : Option Addr) (len3 cap3 : Nat) (z3 : List Int) (a4 : Option Addr) (len4 cap4 : Nat) (z4 : List Int) (w : World) (_ : (Lit.int .i64 a0).wf = true) (h2 : (Lit.int .i32 a2).wf = true) (w3 : IsRow .i32 w a3 len3 cap3 z3) (w4 : IsRow .i32 w a4 len4 cap4 z4)
    (hA : anyNL ((z3.take len3).map cfe) = false) (hC : anyNL ((z4.take len4).map cfe) = false) :
    Calls Tryf.prog 3 #[.int .i64 a0, .bool true, .int .i32 a2, .slice a3 len3 cap3, .slice a4 len4 cap4] w fun e w' => e = .returned (.bool true) ∧ Below w.heap.size w w' := by
  obtain ⟨hlc, hcm, hzl, _, hcell⟩ := w3.open
  obtain ⟨hlc1, hcm1, hzl1, _, hcell1⟩ := w4.open
  unfold maxLen at hcm hcm1
  have hb0 : len3 ≤ 9223372036854775807 := by omega
  have hb1 : len4 ≤ 9223372036854775807 := by omega
  have hz1 : len3 ≤ z3.length := by omega
  have hz2 : len4 ≤ z4.length := by omega
  have W3 := Lib.hid w3; clear w3
  have W4 := Lib.hid w4; clear w4
  have HZ1 := Lib.hid hz1; clear hz1
  have HZ2 := Lib.hid hz2; clear hz2
  have H2 := Lib.hid h2; clear h2
  clear hcell hcell1 hzl hzl1
  obtain ⟨i0, hi, hz0, hz1, hz2⟩ := info_parts Tryf.infoCS
  have HI := Lib.hid hi; clear hi
  have HI0 := Lib.hid hz0; clear hz0
  have HI1 := Lib.hid hz1; clear hz1
  have HI2 := Lib.hid hz2; clear hz2
  obtain ⟨L1, hL1⟩ : ∃ L1, (z3.take len3).map cfe = L1 := ⟨_, rfl⟩
  obtain ⟨L2, hL2⟩ : ∃ L2, (z4.take len4).map cfe = L2 := ⟨_, rfl⟩
  have hl1 : L1.length = len3 := by rw [← hL1, List.length_map, List.length_take]; have := HZ1.out; omega
  have hl2 : L2.length = len4 := by rw [← hL2, List.length_map, List.length_take]; have := HZ2.out; omega
  have HL1 := Lib.hid hL1
  have HL2 := Lib.hid hL2
  rw [hL1] at hA
  rw [hL2] at hC
  have HC := Lib.hid hC; clear hC
  have HA := Lib.hid hA; clear hA hL1 hL2
  have HE1 := Lib.hid hl1; clear hl1
  have HE2 := Lib.hid hl2; clear hl2
  go_enter Tryf.func3, Tryf.ntmps3
  go_wp2_with fail
  refine (zzBytes_ArX _ _ _ _ _ _ _ _ _ _ hb0 hb1).mono ?_
  rintro e w' ⟨b, rfl, rfl⟩
  cases b
  · go_wp2_with fail
    go_ret
    exact ⟨rfl, Below.refl _ _⟩
  by_cases g619 : 65536 < len3
  · go_wp2_with fail
    go_ret
    exact ⟨rfl, Below.refl _ _⟩
  by_cases g932 : 65536 < len4
  · go_wp2_with fail
    go_ret
    exact ⟨rfl, Below.refl _ _⟩
  by_cases g510 : a0 < 0
  · go_wp2_with fail
    go_ret
    exact ⟨rfl, Below.refl _ _⟩
  by_cases g173 : 4096 < a0
  · go_wp2_with fail
    go_ret
    exact ⟨rfl, Below.refl _ _⟩
  obtain ⟨n, rfl⟩ : ∃ n : Nat, a0 = n := ⟨a0.toNat, by omega⟩
  have hn9 : n ≤ 4096 := by omega
  have N3 : len3 ≤ 65536 := by omega
  have N4 : len4 ≤ 65536 := by omega
  go_wp2_with fail
  refine (zzCodesBreak_any _ _ _ _ z3 W3.out).mono ?_
  rintro e w' ⟨rfl, rfl⟩
  rw [HL1.out, HA.out]
  go_wp2_with fail
  refine (zzCodesBreak_any _ _ _ _ z4 W4.out).mono ?_
  rintro e w' ⟨rfl, rfl⟩
  rw [HL2.out, HC.out]
  by_cases hn0 : n = 0
  · subst hn0
    go_wp2_with (at_make; refine wpList_make_full _ rfl _ _ 26 rfl (w.alloc (.cells #[.int .i32 a2] 21)).heap.size 46 i0 _ 2 Tryf.underlying26 HI.out HI0.out HI1.out _ _ _ _ 0 rfl rfl rfl rfl ?b2 ?b3 (Nat.le_refl _) ?_)
    case b2 => rw [HI2.out]; omega
    case b3 => unfold maxLen; omega
    intro w1 hown hgrow
    have K1 := Lib.hid (((Kept.refl [] w).alloc (.cells #[.int .i32 a2] 21)).grown hgrow (by simp)); clear hown hgrow
    obtain ⟨eb, hE2⟩ : ∃ eb, w.heap.size + 1 = eb := ⟨_, rfl⟩
    rw [hE2]
    clear hE2
    go_wp2_with fail
    go_loopw [16] (fun i wr => i = .int .i64 0 ∧ Kept [] w wr) (fun _ _ => 0)
    case atStart => exact ⟨rfl, K1.out⟩
    case round =>
      obtain ⟨rfl, hkw⟩ := hrel
      have HKW := Lib.hid hkw; clear hkw
      obtain ⟨wo, rfl⟩ : ∃ wo : World, wo = wr := ⟨_, rfl⟩
      go_wp2_with fail
      refine (zzFodder_any _ _ _ _ z4 (HKW.out.ints W4.out (by simp)) (by omega)).mono ?_
      rintro e x2 ⟨v2, rfl, hf2, k2⟩
      rw [HL2.out] at hf2
      obtain ⟨fa, fc, hv, -⟩ := hf2.slice
      obtain ⟨fn, hfn⟩ : ∃ fn, L2.length = fn := ⟨_, rfl⟩
      rw [hfn] at hv
      subst hv
      clear hfn
      have HF2 := Lib.hid hf2; clear hf2
      have K2 := Lib.hid (HKW.out.trans k2); clear k2
      go_wp2_with fail
      obtain ⟨nb, hnb⟩ : ∃ nb, x2.heap.size = nb := ⟨_, rfl⟩
      obtain ⟨W5, hW5⟩ : ∃ W5, x2.alloc (.cells #[.slice (some ⟨eb, 0, none⟩) 0 0, .slice fa fn fc, .slice none 0 0, .pointer none, .slice none 0 0, .pointer none, .string ⟨#[]⟩, .int .i64 0, .int .i64 0, .int .i64 0, .int .i64 0, .bool true] 55) = W5 := ⟨_, rfl⟩
      have k5 : Kept [] x2 W5 := hW5 ▸ (Kept.refl [] _).alloc _
      have x5 : W5.heap[nb]? = some (.cells #[.slice (some ⟨eb, 0, none⟩) 0 0, .slice fa fn fc, .slice none 0 0, .pointer none, .slice none 0 0, .pointer none, .string ⟨#[]⟩, .int .i64 0, .int .i64 0, .int .i64 0, .int .i64 0, .bool true] 55 (0, 0)) := by rw [← hW5, ← hnb]; exact heap_alloc_new _ _
      rw [hW5, hnb]
      have d0 := cell_of_block x5 0
      have d1 := cell_of_block x5 1
      have d11 := cell_of_block x5 11
      have HF5 := Lib.hid (HF2.out.kept k5 (by simp)); clear HF2
      have K5 := Lib.hid (K2.out.trans k5); clear K2 k5 x5 hW5
      refine (zzArray0 W5 nb _ 0 d0).mono ?_
      rintro e w6 ⟨rfl, k6⟩
      have e0 := k6.cell (d0.trans rfl) (by simp)
      have e1 := k6.cell (d1.trans rfl) (by simp)
      have e11 := k6.cell (d11.trans rfl) (by simp)
      have HF6 := Lib.hid (HF5.out.kept k6 (by simp)); clear HF5
      have K6 := Lib.hid (K5.out.trans k6); clear K5 k6 d0 d1 d11
      go_wp2_with fail
      refine (zzFodderIsCodes_any _ _ _ _ _ len4 _ z4 none 0 0 [] HF6.out (K6.out.ints W4.out (by simp)) (Or.inl ⟨rfl, rfl, rfl, rfl⟩) HE2.out (by omega) ?_ ?_).mono ?_
      · intro j x hj hx
        rw [← HL2.out] at hx
        exact codes_same z4 len4 j x HZ2.out hj hx
      · intro j x hj; omega
      rintro e w9 ⟨rfl, k9⟩
      go_wp2_with fail
      go_ret
      exact ⟨rfl, (K6.out.trans k9).below (Nat.le_refl _) (by simp)⟩
  obtain ⟨m, hm⟩ : ∃ m, n = m + 1 := ⟨n - 1, by omega⟩
  have HM := Lib.hid hm; clear hm
  have hnp : (0 : Int) < (n : Int) := by omega
  go_wp2_with fail
  refine (zzMergeRisk_any _ true _ _ _ _ _ _ z4 W4.out (by omega) (by omega)).mono ?_
  rintro e w' ⟨rfl, rfl⟩
  obtain ⟨R, hR⟩ : ∃ R, risk true len3 len4 z4 = R := ⟨_, rfl⟩
  rw [hR]
  have HR := Lib.hid hR; clear hR
  cases R
  rotate_left 1
  · go_wp2_with fail
    go_ret
    exact ⟨rfl, Below.refl _ _⟩
  go_wp2_with (at_make; refine wpList_make_full _ rfl _ _ 26 rfl (w.alloc (.cells #[.int .i32 a2] 21)).heap.size 46 i0 _ 2 Tryf.underlying26 HI.out HI0.out HI1.out _ _ _ _ n rfl rfl rfl rfl ?b2 ?b3 (Nat.le_refl _) ?_)
  case b2 => rw [HI2.out]; omega
  case b3 => unfold maxLen; omega
  intro w1 hown hgrow
  obtain ⟨eb, hE2⟩ : ∃ eb, w.heap.size + 1 = eb := ⟨_, rfl⟩
  rw [hE2] at hown ⊢
  obtain ⟨wM, hM0⟩ : ∃ wM, w.alloc (.cells #[.int .i32 a2] 21) = wM := ⟨_, rfl⟩
  have k1 : Kept [] wM w1 := hM0 ▸ (Kept.refl _ _).grown hgrow (by simp)
  have HMR : Hid (IsRow .i32 wM (some ⟨w.heap.size, 0, none⟩) 1 1 [a2]) := Lib.hid (hM0 ▸ mid_row w a2 H2.out)
  have HKM : Hid (Kept [] w wM) := Lib.hid (hM0 ▸ (Kept.refl [] w).alloc _)
  have hE4 : wM.heap.size = eb := by rw [← hM0, ← hE2]; simp
  have HF : Hid (Laid w1 eb n 0 m a2 L1) := Lib.hid ⟨fun _ => 0, fun _ => .slice none 0 0, fun _ => [], {
    es := fun i hi => by omega
    bf := fun j hj => by
      have hl := hown.1
      have := World.ownsRow.cells hown (g := eb) rfl j _ (List.getElem?_eq_getElem (by rw [hl]; omega))
      rw [add_off, Nat.zero_add] at this
      exact ⟨_, this⟩
    bz := fun o => World.ownsRow.frozenAt hown o
    el := (World.ownsRow.lt hown eb rfl).2
    inc := fun i j hij hj => by omega }, fun i hi => by omega⟩
  have K1 := Lib.hid k1; clear k1 hown hgrow
  have HE3 := Lib.hid hE4; clear hE2 hE4 hM0
  go_wp2_with fail
  go_loopw [16] (fun i wr => ∃ k : Nat, k ≤ n ∧ i = .int .i64 k ∧ Hid (Laid wr eb n k m a2 L1) ∧ Kept [] wM wr) (fun i _ => n - (intOf i).toNat)
  case atStart => exact ⟨0, Nat.zero_le _, rfl, HF, K1.out⟩
  case round =>
    obtain ⟨k, hk, rfl, HLD, hkw⟩ := hrel
    obtain ⟨xs, vs, ls, hp, hls⟩ := HLD.out
    have HP := Lib.hid hp; clear hp HLD
    have HLS := Lib.hid hls; clear hls
    have HKW := Lib.hid hkw; clear hkw
    obtain ⟨wo, rfl⟩ : ∃ wo : World, wo = wr := ⟨_, rfl⟩
    by_cases hlt : k < n
    · have b0 : ∀ o, ∃ u, (wo.alloc o).cell? ⟨eb, k * 2, none⟩ = some u := fun o => by
        obtain ⟨u, hu⟩ := HP.out.bf (k * 2) (by omega)
        exact ⟨u, ((Kept.refl [] wo).alloc o).cell hu (by simp)⟩
      have hel := HP.out.el
      have fz : ∀ o j, (wo.alloc o).frozen? ⟨eb, j, none⟩ = false := fun o j => (((Kept.refl [] wo).alloc o).frozen (p := ⟨eb, j, none⟩) hel (by simp)).trans (HP.out.bz j)
      obtain ⟨u0, hu0⟩ := b0 nullX
      have fz0 := fz nullX (k * 2)
      have nex : eb ≠ wo.heap.size := by omega
      have nex2 : wo.heap.size ≠ eb := by omega
      have i1 : (0 : Int) ≤ (k : Int) := by omega
      have i2 : (k : Int) < (n : Int) := by omega
      clear b0 fz
      obtain ⟨WB, hWB⟩ : ∃ WB, (wo.alloc nullX).setCell ⟨eb, k * 2, none⟩ (lnX wo.heap.size) = WB := ⟨_, rfl⟩
      have ka : Kept [] wo (wo.alloc nullX) := (Kept.refl [] _).alloc _
      have cx : (wo.alloc nullX).cell? ⟨wo.heap.size, 0, none⟩ = some (.slice none 0 0) := cell_of_block (heap_alloc_new wo _) 0
      have fx : (wo.alloc nullX).frozen? ⟨wo.heap.size, 0, none⟩ = false := frozen_of_block (heap_alloc_new wo _) 0
      have hq := ((HP.out.kept0 ka).put (k * 2) (Nat.le_refl _) (lnX wo.heap.size))
      rw [hWB] at hq
      have HSTEP : Hid (∀ wc u l, Kept [] WB wc → Fod wc (eb + 1) u l → (∀ g, u.ownBlock = some g → wo.heap.size < g) → l = lsOf m a2 L1 k → Laid (wc.setCell ⟨eb, k * 2 + 1, none⟩ u) eb n (k + 1) m a2 L1 ∧ Kept [] wM (wc.setCell ⟨eb, k * 2 + 1, none⟩ u)) := Lib.hid (fun wc u l kc hu hul hl => by
        obtain ⟨s1, s2⟩ := HP.out.step hlt (Nat.le_refl _) ka cx fx (by rw [hWB]; exact kc) hu hul
        refine ⟨⟨_, _, _, s1, fun i hi => ?_⟩, HKW.out.then s2 (fun g hg => Or.inr (by have := HE3.out; simp at hg; omega))⟩
        by_cases hik : i = k
        · subst hik; rw [upd_same]; exact hl
        · rw [upd_other _ _ hik]; exact HLS.out i (by omega))
      have HBF : Hid (∀ wc, Kept [] WB wc → (∃ u, wc.cell? ⟨eb, k * 2 + 1, none⟩ = some u) ∧ wc.frozen? ⟨eb, k * 2 + 1, none⟩ = false ∧ eb + 1 ≤ wc.heap.size ∧ wo.heap.size < wc.heap.size) := Lib.hid (fun wc kc => by
        have h1 := hq.kept0 kc
        refine ⟨h1.bf _ (by omega), h1.bz _, h1.el, ?_⟩
        have h2 := kc.size
        have h3 : WB.heap.size = wo.heap.size + 1 := by rw [← hWB]; simp [World.setCell]
        omega)
      have HWK : Hid (Kept [] wM WB) := Lib.hid (by
        rw [← hWB]
        exact (HKW.out.alloc _).setCell (Or.inr (by have := HE3.out; dsimp only; omega)) _)
      have HWS : Hid (WB.heap.size = wo.heap.size + 1) := Lib.hid (by rw [← hWB]; simp [World.setCell])
      clear cx fx ka hq
      by_cases hkm : k < m
      · have j1 : (k : Int) < (n : Int) - 1 := by have := HM.out; omega
        go_wp2_with fail
        refine (zzElem_any _ a2).mono ?_
        rintro e x2 ⟨rfl, k2⟩
        obtain ⟨Ek, Eb, Ei, hEc⟩ : ∃ k b i, cfe a2 = ⟨none, 0, 0, k, b, i⟩ := ⟨_, _, _, rfl⟩
        have hst := HSTEP.out (x2.alloc (.cells #[.slice none 0 0, .int .i64 Ek, .int .i64 Eb, .int .i64 Ei] 50)) (.slice (some ⟨x2.heap.size, 0, none⟩) 1 1) [⟨none, 0, 0, Ek, Eb, Ei⟩] (k2.alloc _)
          (fod_litX x2 (eb + 1) (HBF.out _ k2).2.2.1 ⟨none, 0, 0, Ek, Eb, Ei⟩) (fun g hg => by have := (HBF.out _ k2).2.2.2; simp [Value.ownBlock] at hg; omega) (by unfold lsOf; rw [if_pos hkm, hEc])
        have hbf := fun o => HBF.out _ (k2.alloc o)
        obtain ⟨⟨u1, hu1⟩, hf1, -, -⟩ := hbf (.cells #[.slice none 0 0, .int .i64 Ek, .int .i64 Eb, .int .i64 Ei] 50)
        have HST1 := Lib.hid hst.1
        have HST2 := Lib.hid hst.2
        rw [hEc]
        dsimp only
        clear hbf hst hEc k2 hWB
        go_wp2_with fail
        exact ⟨⟨k + 1, by omega, by go_num, HST1, HST2.out⟩, by simp [intOf]; omega⟩
      · have j1 : ¬ (k : Int) < (n : Int) - 1 := by have := HM.out; omega
        go_wp2_with fail
        refine (zzFodder_any _ _ _ _ z3 ((HKM.out.trans HWK.out).ints W3.out (by simp)) (by omega)).mono ?_
        rintro e x2 ⟨v2, rfl, hf2, k2⟩
        rw [HL1.out] at hf2
        obtain ⟨fa, fc, hv, -⟩ := hf2.slice
        obtain ⟨fn, hfn⟩ : ∃ fn, L1.length = fn := ⟨_, rfl⟩
        rw [hfn] at hv
        subst hv
        have hst := HSTEP.out x2 (.slice fa fn fc) L1 k2 (hf2.low (by have := (HBF.out _ k2).2.2.1; have := HWS.out; have := nex; have := hel; omega)) (fun g hg => by have := (World.ownsRow.lt hf2 g hg).1; have := HWS.out; omega) (by unfold lsOf; rw [if_neg hkm])
        obtain ⟨⟨u1, hu1⟩, hf1, -, -⟩ := HBF.out _ k2
        have HST1 := Lib.hid hst.1
        have HST2 := Lib.hid hst.2
        clear hst hf2 k2 hWB hfn
        go_wp2_with fail
        exact ⟨⟨k + 1, by omega, by go_num, HST1, HST2.out⟩, by simp [intOf]; omega⟩
    · obtain rfl : k = n := by omega
      go_wp2_with fail
      refine (zzFodder_any _ _ _ _ z4 ((HKM.out.trans HKW.out).ints W4.out (by simp)) (by omega)).mono ?_
      rintro e x2 ⟨v2, rfl, hf2, k2⟩
      rw [HL2.out] at hf2
      obtain ⟨fa, fc, hv, -⟩ := hf2.slice
      obtain ⟨fn, hfn⟩ : ∃ fn, L2.length = fn := ⟨_, rfl⟩
      rw [hfn] at hv
      subst hv
      clear hfn
      have hel := HP.out.el
      have HPm : Hid (ArP wo eb (m + 1) (m + 1) xs vs ls) := Lib.hid (by have := HP.out; rw [HM.out] at this; exact this)
      have HF2 := Lib.hid hf2; clear hf2
      have K2 := Lib.hid k2; clear k2
      go_wp2_with fail
      obtain ⟨nb, hnb⟩ : ∃ nb, x2.heap.size = nb := ⟨_, rfl⟩
      obtain ⟨W5, hW5⟩ : ∃ W5, x2.alloc (.cells #[.slice (some ⟨eb, 0, none⟩) k k, .slice fa fn fc, .slice none 0 0, .pointer none, .slice none 0 0, .pointer none, .string ⟨#[]⟩, .int .i64 0, .int .i64 0, .int .i64 0, .int .i64 0, .bool true] 55) = W5 := ⟨_, rfl⟩
      have k5 : Kept [] x2 W5 := hW5 ▸ (Kept.refl [] _).alloc _
      have x5 : W5.heap[nb]? = some (.cells #[.slice (some ⟨eb, 0, none⟩) k k, .slice fa fn fc, .slice none 0 0, .pointer none, .slice none 0 0, .pointer none, .string ⟨#[]⟩, .int .i64 0, .int .i64 0, .int .i64 0, .int .i64 0, .bool true] 55 (0, 0)) := by rw [← hW5, ← hnb]; exact heap_alloc_new _ _
      rw [hW5, hnb]
      have s2 := K2.out.size
      have hArr := ArP.done (nb := nb) (tc := true) HPm.out K2.out (HF2.out.low (by omega)) (fun g hg => (World.ownsRow.lt HF2.out g hg).1) k5 (Nat.le_of_eq hnb) x5 (by rw [HM.out]; rfl) rfl rfl
      have hlm : ls m = L1 := by rw [HLS.out m (by rw [HM.out]; exact Nat.lt_succ_self _)]; unfold lsOf; rw [if_neg (Nat.lt_irrefl _)]
      have hlc' : ∀ i, i < m → ls i = [cfe a2] := fun i hi => by rw [HLS.out i (by have := HM.out; omega)]; unfold lsOf; rw [if_pos hi]
      rw [hlm] at hArr
      have hvo : ∀ g, (vs m).ownBlock = some g → eb < g := fun g hg => by
        have := (World.ownsRow.lt (HPm.out.es m (Nat.lt_succ_self _)).2.2.1 g hg).1
        omega
      refine (zzArray W5 (eb + 1) nb eb m true (vs m) _ L1 L2 ls hArr (by have := HM.out; omega) (by rw [HE1.out, HE2.out]; omega) (by have := k5.size; omega) (by rw [← HL2.out]; exact cfe_head _ _)).mono ?_
      rintro e w6 ⟨rfl, ll, lc, vl, vc, hfx, hn6, hk6, -, -⟩
      have hk6' : Kept [] wM w6 := ((HKW.out.trans K2.out).trans k5).then hk6 (fun g hg => Or.inr (by
        have h1 := HE3.out
        have h2 := HKW.out.size
        simp only [List.mem_cons, Option.mem_toList] at hg
        rcases hg with rfl | rfl | hg
        · omega
        · omega
        · have := hvo g hg; omega))
      have hneed : (anyNL L2 || anyNL L1) = false := by rw [HA.out, HC.out]; rfl
      rw [hneed] at hn6
      have KW6 := Lib.hid (HKM.out.trans hk6')
      have KM6 := Lib.hid hk6'; clear hk6' hk6
      have ct := hn6.two.ct
      have cp := hn6.two.cp
      have cq := hn6.two.cq
      have c0 := hn6.c0
      rw [← HM.out] at c0
      have HL := Lib.hid hn6.two.l
      have HCF := Lib.hid hn6.two.c
      have HCM := Lib.hid hn6.cm
      have HLC := Lib.hid hlc'; clear hlc' hlm hArr hn6 hvo x5 k5 hW5 s2 hel
      obtain ⟨pa, pc, rfl, -⟩ := HL.out.slice
      obtain ⟨qa, qc, rfl, -⟩ := HCF.out.slice
      obtain ⟨pn, hpn⟩ : ∃ pn, ll.length = pn := ⟨_, rfl⟩
      obtain ⟨qn, hqn⟩ : ∃ qn, lc.length = qn := ⟨_, rfl⟩
      rw [hpn] at cp HL
      rw [hqn] at cq HCF
      have HFX := Lib.hid hfx; clear hfx
      have HPN := Lib.hid hpn; clear hpn
      have HQN := Lib.hid hqn; clear hqn
      clear HF2 HP HPm HLS HKW K2 hnb
      have hm9 : m ≤ 4096 := by have := HM.out; omega
      have hz9 : ((k : Int) == 0) = false := by have := HM.out; simp; omega
      have hw9 : IntKind.i64.wrap ((k : Int) - 1) = (m : Int) := by have := HM.out; rw [IntKind.wrap_i64]; omega
      go_wp2_with fail
      go_loopw [18] (fun i wr => ∃ j : Nat, j ≤ m ∧ i = .int .i64 j ∧ Kept [] w6 wr) (fun i _ => m - (intOf i).toNat)
      case atStart => exact ⟨0, Nat.zero_le _, rfl, Kept.refl _ _⟩
      case round =>
      obtain ⟨j, hj, rfl, hkw⟩ := hrel
      have HKW := Lib.hid hkw; clear hkw
      obtain ⟨w7, rfl⟩ : ∃ w7 : World, w7 = wr := ⟨_, rfl⟩
      have ct7 := HKW.out.cell ct (by simp)
      have cp7 := HKW.out.cell cp (by simp)
      have cq7 := HKW.out.cell cq (by simp)
      have c07 := HKW.out.cell c0 (by simp)
      clear ct cp cq c0
      by_cases hlt : j < m
      · obtain ⟨v, d1, d2, -⟩ := HCM.out j hlt
        rw [HLC.out j hlt] at d2
        obtain ⟨ea, ec, rfl, -⟩ := d2.slice
        have d17 := HKW.out.cell d1 (by simp)
        have HD := Lib.hid (d2.kept HKW.out (by simp))
        have i1 : (0 : Int) ≤ (j : Int) := by omega
        have i2 : (j : Int) < (k : Int) - 1 := by have := HM.out; omega
        have i3 : (j : Int) < (k : Int) := by have := HM.out; omega
        clear d1 d2
        go_wp2_with fail
        refine (zzFodderIsCodes_any _ _ _ [cfe a2] _ 1 _ [a2] none 0 0 [] HD.out ((KM6.out.trans HKW.out).ints HMR.out (by simp)) (Or.inl ⟨rfl, rfl, rfl, rfl⟩) rfl (by omega) ?_ ?_).mono ?_
        · intro q x hq hx
          obtain rfl : q = 0 := by omega
          obtain rfl : cfe a2 = x := by simpa using hx
          exact ⟨rfl, rfl, rfl, rfl, rfl⟩
        · intro q x hq; omega
        rintro e w8 ⟨rfl, k8⟩
        have K8 := Lib.hid (HKW.out.trans k8); clear k8
        go_wp2_with fail
        go_roundw
        case rel => exact ⟨j + 1, by omega, by go_num, K8.out⟩
        case measure => simp [intOf]; omega
      · obtain rfl : j = m := by omega
        have i1 : (0 : Int) ≤ (j : Int) := by omega
        have i2 : ¬ (j : Int) < (k : Int) - 1 := by have := HM.out; omega
        have i3 : (j : Int) < (k : Int) := by have := HM.out; omega
        have HLw := Lib.hid (HL.out.kept HKW.out (by simp))
        have HCw := Lib.hid (HCF.out.kept HKW.out (by simp))
        have KW7 := Lib.hid (KW6.out.trans HKW.out)
        clear HL HCF
        have hrm2 : ll = [] ∧ lc = L1 ++ L2 := by
          rcases HFX.out with ⟨hf, hl, hc⟩ | ⟨hf, hl, hc⟩
          · refine ⟨hl, ?_⟩
            rw [← HL1.out, ← HL2.out] at hc ⊢
            exact conc_plain HZ1.out HZ2.out HR.out hc
          · rw [hneed, HA.out] at hf; cases hf
        have hp0 : pn = 0 := by rw [← HPN.out, hrm2.1]; rfl
        have hql : lc.length ≤ 9223372036854775807 := by rw [hrm2.2, List.length_append, HE1.out, HE2.out]; omega
        subst hp0
        have HRM := Lib.hid hrm2; clear hrm2 hneed hql
        go_wp2_with fail
        refine (zzFodderIsCodes_any _ _ _ lc _ len3 _ z3 _ len4 _ z4 HCw.out (KW7.out.ints W3.out (by simp)) (KW7.out.ints W4.out (by simp)) (by rw [HRM.out.2, List.length_append, HE1.out, HE2.out]) (by omega) ?_ ?_).mono ?_
        · intro j x hj hx
          rw [HRM.out.2] at hx
          rw [List.getElem?_append_left (by rw [HE1.out]; exact hj), ← HL1.out] at hx
          exact codes_same z3 len3 j x HZ1.out hj hx
        · intro j x hj hx
          rw [HRM.out.2] at hx
          rw [List.getElem?_append_right (by rw [HE1.out]; omega), HE1.out, Nat.add_sub_cancel_left, ← HL2.out] at hx
          exact codes_same z4 len4 j x HZ2.out hj hx
        rintro e w8 ⟨rfl, k8⟩
        go_wp2_with fail
        go_ret
        exact ⟨rfl, (KW7.out.trans k8).below (Nat.le_refl _) (by simp)⟩

set_option maxRecDepth 100000 in
set_option maxHeartbeats 8000000 in
theorem walk_ftf (a0 : Int) (a2 : Int) (a3 : Option Addr) (len3 cap3 : Nat) (z3 : List Int) (a4 : Option Addr) (len4 cap4 : Nat) (z4 : List Int) (w : World) (_ : (Lit.int .i64 a0).wf = true) (h2 : (Lit.int .i32 a2).wf = true) (w3 : IsRow .i32 w a3 len3 cap3 z3) (w4 : IsRow .i32 w a4 len4 cap4 z4)
    (hA : anyNL ((z3.take len3).map cfe) = false) (hC : anyNL ((z4.take len4).map cfe) = true) :
    Calls Tryf.prog 3 #[.int .i64 a0, .bool false, .int .i32 a2, .slice a3 len3 cap3, .slice a4 len4 cap4] w fun e w' => e = .returned (.bool true) ∧ Below w.heap.size w w' := by
  obtain ⟨hlc, hcm, hzl, _, hcell⟩ := w3.open
  obtain ⟨hlc1, hcm1, hzl1, _, hcell1⟩ := w4.open
  unfold maxLen at hcm hcm1
  have hb0 : len3 ≤ 9223372036854775807 := by omega
  have hb1 : len4 ≤ 9223372036854775807 := by omega
  have hz1 : len3 ≤ z3.length := by omega
  have hz2 : len4 ≤ z4.length := by omega
  have W3 := Lib.hid w3; clear w3
  have W4 := Lib.hid w4; clear w4
  have HZ1 := Lib.hid hz1; clear hz1
  have HZ2 := Lib.hid hz2; clear hz2
  have H2 := Lib.hid h2; clear h2
  clear hcell hcell1 hzl hzl1
  obtain ⟨i0, hi, hz0, hz1, hz2⟩ := info_parts Tryf.infoCS
  have HI := Lib.hid hi; clear hi
  have HI0 := Lib.hid hz0; clear hz0
  have HI1 := Lib.hid hz1; clear hz1
  have HI2 := Lib.hid hz2; clear hz2
  obtain ⟨L1, hL1⟩ : ∃ L1, (z3.take len3).map cfe = L1 := ⟨_, rfl⟩
  obtain ⟨L2, hL2⟩ : ∃ L2, (z4.take len4).map cfe = L2 := ⟨_, rfl⟩
  have hl1 : L1.length = len3 := by rw [← hL1, List.length_map, List.length_take]; have := HZ1.out; omega
  have hl2 : L2.length = len4 := by rw [← hL2, List.length_map, List.length_take]; have := HZ2.out; omega
  have HL1 := Lib.hid hL1
  have HL2 := Lib.hid hL2
  rw [hL1] at hA
  rw [hL2] at hC
  have HC := Lib.hid hC; clear hC
  have HA := Lib.hid hA; clear hA hL1 hL2
  have HE1 := Lib.hid hl1; clear hl1
  have HE2 := Lib.hid hl2; clear hl2
  go_enter Tryf.func3, Tryf.ntmps3
  go_wp2_with fail
  refine (zzBytes_ArX _ _ _ _ _ _ _ _ _ _ hb0 hb1).mono ?_
  rintro e w' ⟨b, rfl, rfl⟩
  cases b
  · go_wp2_with fail
    go_ret
    exact ⟨rfl, Below.refl _ _⟩
  by_cases g619 : 65536 < len3
  · go_wp2_with fail
    go_ret
    exact ⟨rfl, Below.refl _ _⟩
  by_cases g932 : 65536 < len4
  · go_wp2_with fail
    go_ret
    exact ⟨rfl, Below.refl _ _⟩
  by_cases g510 : a0 < 0
  · go_wp2_with fail
    go_ret
    exact ⟨rfl, Below.refl _ _⟩
  by_cases g173 : 4096 < a0
  · go_wp2_with fail
    go_ret
    exact ⟨rfl, Below.refl _ _⟩
  obtain ⟨n, rfl⟩ : ∃ n : Nat, a0 = n := ⟨a0.toNat, by omega⟩
  have hn9 : n ≤ 4096 := by omega
  have N3 : len3 ≤ 65536 := by omega
  have N4 : len4 ≤ 65536 := by omega
  go_wp2_with fail
  refine (zzCodesBreak_any _ _ _ _ z3 W3.out).mono ?_
  rintro e w' ⟨rfl, rfl⟩
  rw [HL1.out, HA.out]
  go_wp2_with fail
  refine (zzCodesBreak_any _ _ _ _ z4 W4.out).mono ?_
  rintro e w' ⟨rfl, rfl⟩
  rw [HL2.out, HC.out]
  by_cases hn0 : n = 0
  · subst hn0
    go_wp2_with (at_make; refine wpList_make_full _ rfl _ _ 26 rfl (w.alloc (.cells #[.int .i32 a2] 21)).heap.size 46 i0 _ 2 Tryf.underlying26 HI.out HI0.out HI1.out _ _ _ _ 0 rfl rfl rfl rfl ?b2 ?b3 (Nat.le_refl _) ?_)
    case b2 => rw [HI2.out]; omega
    case b3 => unfold maxLen; omega
    intro w1 hown hgrow
    have K1 := Lib.hid (((Kept.refl [] w).alloc (.cells #[.int .i32 a2] 21)).grown hgrow (by simp)); clear hown hgrow
    obtain ⟨eb, hE2⟩ : ∃ eb, w.heap.size + 1 = eb := ⟨_, rfl⟩
    rw [hE2]
    clear hE2
    go_wp2_with fail
    go_loopw [16] (fun i wr => i = .int .i64 0 ∧ Kept [] w wr) (fun _ _ => 0)
    case atStart => exact ⟨rfl, K1.out⟩
    case round =>
      obtain ⟨rfl, hkw⟩ := hrel
      have HKW := Lib.hid hkw; clear hkw
      obtain ⟨wo, rfl⟩ : ∃ wo : World, wo = wr := ⟨_, rfl⟩
      go_wp2_with fail
      refine (zzFodder_any _ _ _ _ z4 (HKW.out.ints W4.out (by simp)) (by omega)).mono ?_
      rintro e x2 ⟨v2, rfl, hf2, k2⟩
      rw [HL2.out] at hf2
      obtain ⟨fa, fc, hv, -⟩ := hf2.slice
      obtain ⟨fn, hfn⟩ : ∃ fn, L2.length = fn := ⟨_, rfl⟩
      rw [hfn] at hv
      subst hv
      clear hfn
      have HF2 := Lib.hid hf2; clear hf2
      have K2 := Lib.hid (HKW.out.trans k2); clear k2
      go_wp2_with fail
      obtain ⟨nb, hnb⟩ : ∃ nb, x2.heap.size = nb := ⟨_, rfl⟩
      obtain ⟨W5, hW5⟩ : ∃ W5, x2.alloc (.cells #[.slice (some ⟨eb, 0, none⟩) 0 0, .slice fa fn fc, .slice none 0 0, .pointer none, .slice none 0 0, .pointer none, .string ⟨#[]⟩, .int .i64 0, .int .i64 0, .int .i64 0, .int .i64 0, .bool false] 55) = W5 := ⟨_, rfl⟩
      have k5 : Kept [] x2 W5 := hW5 ▸ (Kept.refl [] _).alloc _
      have x5 : W5.heap[nb]? = some (.cells #[.slice (some ⟨eb, 0, none⟩) 0 0, .slice fa fn fc, .slice none 0 0, .pointer none, .slice none 0 0, .pointer none, .string ⟨#[]⟩, .int .i64 0, .int .i64 0, .int .i64 0, .int .i64 0, .bool false] 55 (0, 0)) := by rw [← hW5, ← hnb]; exact heap_alloc_new _ _
      rw [hW5, hnb]
      have d0 := cell_of_block x5 0
      have d1 := cell_of_block x5 1
      have d11 := cell_of_block x5 11
      have HF5 := Lib.hid (HF2.out.kept k5 (by simp)); clear HF2
      have K5 := Lib.hid (K2.out.trans k5); clear K2 k5 x5 hW5
      refine (zzArray0 W5 nb _ 0 d0).mono ?_
      rintro e w6 ⟨rfl, k6⟩
      have e0 := k6.cell (d0.trans rfl) (by simp)
      have e1 := k6.cell (d1.trans rfl) (by simp)
      have e11 := k6.cell (d11.trans rfl) (by simp)
      have HF6 := Lib.hid (HF5.out.kept k6 (by simp)); clear HF5
      have K6 := Lib.hid (K5.out.trans k6); clear K5 k6 d0 d1 d11
      go_wp2_with fail
      refine (zzFodderIsCodes_any _ _ _ _ _ len4 _ z4 none 0 0 [] HF6.out (K6.out.ints W4.out (by simp)) (Or.inl ⟨rfl, rfl, rfl, rfl⟩) HE2.out (by omega) ?_ ?_).mono ?_
      · intro j x hj hx
        rw [← HL2.out] at hx
        exact codes_same z4 len4 j x HZ2.out hj hx
      · intro j x hj; omega
      rintro e w9 ⟨rfl, k9⟩
      go_wp2_with fail
      go_ret
      exact ⟨rfl, (K6.out.trans k9).below (Nat.le_refl _) (by simp)⟩
  obtain ⟨m, hm⟩ : ∃ m, n = m + 1 := ⟨n - 1, by omega⟩
  have HM := Lib.hid hm; clear hm
  have hnp : (0 : Int) < (n : Int) := by omega
  go_wp2_with fail
  refine (zzMergeRisk_any _ false _ _ _ _ _ _ z4 W4.out (by omega) (by omega)).mono ?_
  rintro e w' ⟨rfl, rfl⟩
  rw [show risk false len3 len4 z4 = false from rfl]
  go_wp2_with (at_make; refine wpList_make_full _ rfl _ _ 26 rfl (w.alloc (.cells #[.int .i32 a2] 21)).heap.size 46 i0 _ 2 Tryf.underlying26 HI.out HI0.out HI1.out _ _ _ _ n rfl rfl rfl rfl ?b2 ?b3 (Nat.le_refl _) ?_)
  case b2 => rw [HI2.out]; omega
  case b3 => unfold maxLen; omega
  intro w1 hown hgrow
  obtain ⟨eb, hE2⟩ : ∃ eb, w.heap.size + 1 = eb := ⟨_, rfl⟩
  rw [hE2] at hown ⊢
  obtain ⟨wM, hM0⟩ : ∃ wM, w.alloc (.cells #[.int .i32 a2] 21) = wM := ⟨_, rfl⟩
  have k1 : Kept [] wM w1 := hM0 ▸ (Kept.refl _ _).grown hgrow (by simp)
  have HMR : Hid (IsRow .i32 wM (some ⟨w.heap.size, 0, none⟩) 1 1 [a2]) := Lib.hid (hM0 ▸ mid_row w a2 H2.out)
  have HKM : Hid (Kept [] w wM) := Lib.hid (hM0 ▸ (Kept.refl [] w).alloc _)
  have hE4 : wM.heap.size = eb := by rw [← hM0, ← hE2]; simp
  have HF : Hid (Laid w1 eb n 0 m a2 L1) := Lib.hid ⟨fun _ => 0, fun _ => .slice none 0 0, fun _ => [], {
    es := fun i hi => by omega
    bf := fun j hj => by
      have hl := hown.1
      have := World.ownsRow.cells hown (g := eb) rfl j _ (List.getElem?_eq_getElem (by rw [hl]; omega))
      rw [add_off, Nat.zero_add] at this
      exact ⟨_, this⟩
    bz := fun o => World.ownsRow.frozenAt hown o
    el := (World.ownsRow.lt hown eb rfl).2
    inc := fun i j hij hj => by omega }, fun i hi => by omega⟩
  have K1 := Lib.hid k1; clear k1 hown hgrow
  have HE3 := Lib.hid hE4; clear hE2 hE4 hM0
  go_wp2_with fail
  go_loopw [16] (fun i wr => ∃ k : Nat, k ≤ n ∧ i = .int .i64 k ∧ Hid (Laid wr eb n k m a2 L1) ∧ Kept [] wM wr) (fun i _ => n - (intOf i).toNat)
  case atStart => exact ⟨0, Nat.zero_le _, rfl, HF, K1.out⟩
  case round =>
    obtain ⟨k, hk, rfl, HLD, hkw⟩ := hrel
    obtain ⟨xs, vs, ls, hp, hls⟩ := HLD.out
    have HP := Lib.hid hp; clear hp HLD
    have HLS := Lib.hid hls; clear hls
    have HKW := Lib.hid hkw; clear hkw
    obtain ⟨wo, rfl⟩ : ∃ wo : World, wo = wr := ⟨_, rfl⟩
    by_cases hlt : k < n
    · have b0 : ∀ o, ∃ u, (wo.alloc o).cell? ⟨eb, k * 2, none⟩ = some u := fun o => by
        obtain ⟨u, hu⟩ := HP.out.bf (k * 2) (by omega)
        exact ⟨u, ((Kept.refl [] wo).alloc o).cell hu (by simp)⟩
      have hel := HP.out.el
      have fz : ∀ o j, (wo.alloc o).frozen? ⟨eb, j, none⟩ = false := fun o j => (((Kept.refl [] wo).alloc o).frozen (p := ⟨eb, j, none⟩) hel (by simp)).trans (HP.out.bz j)
      obtain ⟨u0, hu0⟩ := b0 nullX
      have fz0 := fz nullX (k * 2)
      have nex : eb ≠ wo.heap.size := by omega
      have nex2 : wo.heap.size ≠ eb := by omega
      have i1 : (0 : Int) ≤ (k : Int) := by omega
      have i2 : (k : Int) < (n : Int) := by omega
      clear b0 fz
      obtain ⟨WB, hWB⟩ : ∃ WB, (wo.alloc nullX).setCell ⟨eb, k * 2, none⟩ (lnX wo.heap.size) = WB := ⟨_, rfl⟩
      have ka : Kept [] wo (wo.alloc nullX) := (Kept.refl [] _).alloc _
      have cx : (wo.alloc nullX).cell? ⟨wo.heap.size, 0, none⟩ = some (.slice none 0 0) := cell_of_block (heap_alloc_new wo _) 0
      have fx : (wo.alloc nullX).frozen? ⟨wo.heap.size, 0, none⟩ = false := frozen_of_block (heap_alloc_new wo _) 0
      have hq := ((HP.out.kept0 ka).put (k * 2) (Nat.le_refl _) (lnX wo.heap.size))
      rw [hWB] at hq
      have HSTEP : Hid (∀ wc u l, Kept [] WB wc → Fod wc (eb + 1) u l → (∀ g, u.ownBlock = some g → wo.heap.size < g) → l = lsOf m a2 L1 k → Laid (wc.setCell ⟨eb, k * 2 + 1, none⟩ u) eb n (k + 1) m a2 L1 ∧ Kept [] wM (wc.setCell ⟨eb, k * 2 + 1, none⟩ u)) := Lib.hid (fun wc u l kc hu hul hl => by
        obtain ⟨s1, s2⟩ := HP.out.step hlt (Nat.le_refl _) ka cx fx (by rw [hWB]; exact kc) hu hul
        refine ⟨⟨_, _, _, s1, fun i hi => ?_⟩, HKW.out.then s2 (fun g hg => Or.inr (by have := HE3.out; simp at hg; omega))⟩
        by_cases hik : i = k
        · subst hik; rw [upd_same]; exact hl
        · rw [upd_other _ _ hik]; exact HLS.out i (by omega))
      have HBF : Hid (∀ wc, Kept [] WB wc → (∃ u, wc.cell? ⟨eb, k * 2 + 1, none⟩ = some u) ∧ wc.frozen? ⟨eb, k * 2 + 1, none⟩ = false ∧ eb + 1 ≤ wc.heap.size ∧ wo.heap.size < wc.heap.size) := Lib.hid (fun wc kc => by
        have h1 := hq.kept0 kc
        refine ⟨h1.bf _ (by omega), h1.bz _, h1.el, ?_⟩
        have h2 := kc.size
        have h3 : WB.heap.size = wo.heap.size + 1 := by rw [← hWB]; simp [World.setCell]
        omega)
      have HWK : Hid (Kept [] wM WB) := Lib.hid (by
        rw [← hWB]
        exact (HKW.out.alloc _).setCell (Or.inr (by have := HE3.out; dsimp only; omega)) _)
      have HWS : Hid (WB.heap.size = wo.heap.size + 1) := Lib.hid (by rw [← hWB]; simp [World.setCell])
      clear cx fx ka hq
      by_cases hkm : k < m
      · have j1 : (k : Int) < (n : Int) - 1 := by have := HM.out; omega
        go_wp2_with fail
        refine (zzElem_any _ a2).mono ?_
        rintro e x2 ⟨rfl, k2⟩
        obtain ⟨Ek, Eb, Ei, hEc⟩ : ∃ k b i, cfe a2 = ⟨none, 0, 0, k, b, i⟩ := ⟨_, _, _, rfl⟩
        have hst := HSTEP.out (x2.alloc (.cells #[.slice none 0 0, .int .i64 Ek, .int .i64 Eb, .int .i64 Ei] 50)) (.slice (some ⟨x2.heap.size, 0, none⟩) 1 1) [⟨none, 0, 0, Ek, Eb, Ei⟩] (k2.alloc _)
          (fod_litX x2 (eb + 1) (HBF.out _ k2).2.2.1 ⟨none, 0, 0, Ek, Eb, Ei⟩) (fun g hg => by have := (HBF.out _ k2).2.2.2; simp [Value.ownBlock] at hg; omega) (by unfold lsOf; rw [if_pos hkm, hEc])
        have hbf := fun o => HBF.out _ (k2.alloc o)
        obtain ⟨⟨u1, hu1⟩, hf1, -, -⟩ := hbf (.cells #[.slice none 0 0, .int .i64 Ek, .int .i64 Eb, .int .i64 Ei] 50)
        have HST1 := Lib.hid hst.1
        have HST2 := Lib.hid hst.2
        rw [hEc]
        dsimp only
        clear hbf hst hEc k2 hWB
        go_wp2_with fail
        exact ⟨⟨k + 1, by omega, by go_num, HST1, HST2.out⟩, by simp [intOf]; omega⟩
      · have j1 : ¬ (k : Int) < (n : Int) - 1 := by have := HM.out; omega
        go_wp2_with fail
        refine (zzFodder_any _ _ _ _ z3 ((HKM.out.trans HWK.out).ints W3.out (by simp)) (by omega)).mono ?_
        rintro e x2 ⟨v2, rfl, hf2, k2⟩
        rw [HL1.out] at hf2
        obtain ⟨fa, fc, hv, -⟩ := hf2.slice
        obtain ⟨fn, hfn⟩ : ∃ fn, L1.length = fn := ⟨_, rfl⟩
        rw [hfn] at hv
        subst hv
        have hst := HSTEP.out x2 (.slice fa fn fc) L1 k2 (hf2.low (by have := (HBF.out _ k2).2.2.1; have := HWS.out; have := nex; have := hel; omega)) (fun g hg => by have := (World.ownsRow.lt hf2 g hg).1; have := HWS.out; omega) (by unfold lsOf; rw [if_neg hkm])
        obtain ⟨⟨u1, hu1⟩, hf1, -, -⟩ := HBF.out _ k2
        have HST1 := Lib.hid hst.1
        have HST2 := Lib.hid hst.2
        clear hst hf2 k2 hWB hfn
        go_wp2_with fail
        exact ⟨⟨k + 1, by omega, by go_num, HST1, HST2.out⟩, by simp [intOf]; omega⟩
    · obtain rfl : k = n := by omega
      go_wp2_with fail
      refine (zzFodder_any _ _ _ _ z4 ((HKM.out.trans HKW.out).ints W4.out (by simp)) (by omega)).mono ?_
      rintro e x2 ⟨v2, rfl, hf2, k2⟩
      rw [HL2.out] at hf2
      obtain ⟨fa, fc, hv, -⟩ := hf2.slice
      obtain ⟨fn, hfn⟩ : ∃ fn, L2.length = fn := ⟨_, rfl⟩
      rw [hfn] at hv
      subst hv
      clear hfn
      have hel := HP.out.el
      have HPm : Hid (ArP wo eb (m + 1) (m + 1) xs vs ls) := Lib.hid (by have := HP.out; rw [HM.out] at this; exact this)
      have HF2 := Lib.hid hf2; clear hf2
      have K2 := Lib.hid k2; clear k2
      go_wp2_with fail
      obtain ⟨nb, hnb⟩ : ∃ nb, x2.heap.size = nb := ⟨_, rfl⟩
      obtain ⟨W5, hW5⟩ : ∃ W5, x2.alloc (.cells #[.slice (some ⟨eb, 0, none⟩) k k, .slice fa fn fc, .slice none 0 0, .pointer none, .slice none 0 0, .pointer none, .string ⟨#[]⟩, .int .i64 0, .int .i64 0, .int .i64 0, .int .i64 0, .bool false] 55) = W5 := ⟨_, rfl⟩
      have k5 : Kept [] x2 W5 := hW5 ▸ (Kept.refl [] _).alloc _
      have x5 : W5.heap[nb]? = some (.cells #[.slice (some ⟨eb, 0, none⟩) k k, .slice fa fn fc, .slice none 0 0, .pointer none, .slice none 0 0, .pointer none, .string ⟨#[]⟩, .int .i64 0, .int .i64 0, .int .i64 0, .int .i64 0, .bool false] 55 (0, 0)) := by rw [← hW5, ← hnb]; exact heap_alloc_new _ _
      rw [hW5, hnb]
      have s2 := K2.out.size
      have hArr := ArP.done (nb := nb) (tc := false) HPm.out K2.out (HF2.out.low (by omega)) (fun g hg => (World.ownsRow.lt HF2.out g hg).1) k5 (Nat.le_of_eq hnb) x5 (by rw [HM.out]; rfl) rfl rfl
      have hlm : ls m = L1 := by rw [HLS.out m (by rw [HM.out]; exact Nat.lt_succ_self _)]; unfold lsOf; rw [if_neg (Nat.lt_irrefl _)]
      have hlc' : ∀ i, i < m → ls i = [cfe a2] := fun i hi => by rw [HLS.out i (by have := HM.out; omega)]; unfold lsOf; rw [if_pos hi]
      rw [hlm] at hArr
      have hvo : ∀ g, (vs m).ownBlock = some g → eb < g := fun g hg => by
        have := (World.ownsRow.lt (HPm.out.es m (Nat.lt_succ_self _)).2.2.1 g hg).1
        omega
      refine (zzArray W5 (eb + 1) nb eb m false (vs m) _ L1 L2 ls hArr (by have := HM.out; omega) (by rw [HE1.out, HE2.out]; omega) (by have := k5.size; omega) (by rw [← HL2.out]; exact cfe_head _ _)).mono ?_
      rintro e w6 ⟨rfl, ll, lc, vl, vc, hfx, hn6, hk6, -, -⟩
      have hk6' : Kept [] wM w6 := ((HKW.out.trans K2.out).trans k5).then hk6 (fun g hg => Or.inr (by
        have h1 := HE3.out
        have h2 := HKW.out.size
        simp only [List.mem_cons, Option.mem_toList] at hg
        rcases hg with rfl | rfl | hg
        · omega
        · omega
        · have := hvo g hg; omega))
      have hneed : (anyNL L2 || anyNL L1) = true := by rw [HA.out, HC.out]; rfl
      rw [hneed] at hn6
      have KW6 := Lib.hid (HKM.out.trans hk6')
      have KM6 := Lib.hid hk6'; clear hk6' hk6
      have ct := hn6.two.ct
      have cp := hn6.two.cp
      have cq := hn6.two.cq
      have c0 := hn6.c0
      rw [← HM.out] at c0
      have HL := Lib.hid hn6.two.l
      have HCF := Lib.hid hn6.two.c
      have HCM := Lib.hid hn6.cm
      have HLC := Lib.hid hlc'; clear hlc' hlm hArr hn6 hvo x5 k5 hW5 s2 hel
      obtain ⟨pa, pc, rfl, -⟩ := HL.out.slice
      obtain ⟨qa, qc, rfl, -⟩ := HCF.out.slice
      obtain ⟨pn, hpn⟩ : ∃ pn, ll.length = pn := ⟨_, rfl⟩
      obtain ⟨qn, hqn⟩ : ∃ qn, lc.length = qn := ⟨_, rfl⟩
      rw [hpn] at cp HL
      rw [hqn] at cq HCF
      have HFX := Lib.hid hfx; clear hfx
      have HPN := Lib.hid hpn; clear hpn
      have HQN := Lib.hid hqn; clear hqn
      clear HF2 HP HPm HLS HKW K2 hnb
      have hm9 : m ≤ 4096 := by have := HM.out; omega
      have hz9 : ((k : Int) == 0) = false := by have := HM.out; simp; omega
      have hw9 : IntKind.i64.wrap ((k : Int) - 1) = (m : Int) := by have := HM.out; rw [IntKind.wrap_i64]; omega
      go_wp2_with fail
      go_loopw [18] (fun i wr => ∃ j : Nat, j ≤ m ∧ i = .int .i64 j ∧ Kept [] w6 wr) (fun i _ => m - (intOf i).toNat)
      case atStart => exact ⟨0, Nat.zero_le _, rfl, Kept.refl _ _⟩
      case round =>
      obtain ⟨j, hj, rfl, hkw⟩ := hrel
      have HKW := Lib.hid hkw; clear hkw
      obtain ⟨w7, rfl⟩ : ∃ w7 : World, w7 = wr := ⟨_, rfl⟩
      have ct7 := HKW.out.cell ct (by simp)
      have cp7 := HKW.out.cell cp (by simp)
      have cq7 := HKW.out.cell cq (by simp)
      have c07 := HKW.out.cell c0 (by simp)
      clear ct cp cq c0
      by_cases hlt : j < m
      · obtain ⟨v, d1, d2, -⟩ := HCM.out j hlt
        rw [HLC.out j hlt] at d2
        obtain ⟨ea, ec, rfl, -⟩ := d2.slice
        have d17 := HKW.out.cell d1 (by simp)
        have HD := Lib.hid (d2.kept HKW.out (by simp))
        have i1 : (0 : Int) ≤ (j : Int) := by omega
        have i2 : (j : Int) < (k : Int) - 1 := by have := HM.out; omega
        have i3 : (j : Int) < (k : Int) := by have := HM.out; omega
        clear d1 d2
        go_wp2_with fail
        refine (zzFodderIsCodes_any _ _ _ [cfe a2] _ 1 _ [a2] none 0 0 [] HD.out ((KM6.out.trans HKW.out).ints HMR.out (by simp)) (Or.inl ⟨rfl, rfl, rfl, rfl⟩) rfl (by omega) ?_ ?_).mono ?_
        · intro q x hq hx
          obtain rfl : q = 0 := by omega
          obtain rfl : cfe a2 = x := by simpa using hx
          exact ⟨rfl, rfl, rfl, rfl, rfl⟩
        · intro q x hq; omega
        rintro e w8 ⟨rfl, k8⟩
        have K8 := Lib.hid (HKW.out.trans k8); clear k8
        go_wp2_with fail
        go_roundw
        case rel => exact ⟨j + 1, by omega, by go_num, K8.out⟩
        case measure => simp [intOf]; omega
      · obtain rfl : j = m := by omega
        have i1 : (0 : Int) ≤ (j : Int) := by omega
        have i2 : ¬ (j : Int) < (k : Int) - 1 := by have := HM.out; omega
        have i3 : (j : Int) < (k : Int) := by have := HM.out; omega
        have HLw := Lib.hid (HL.out.kept HKW.out (by simp))
        have HCw := Lib.hid (HCF.out.kept HKW.out (by simp))
        have KW7 := Lib.hid (KW6.out.trans HKW.out)
        clear HL HCF
        have hrm2 : ll = L1 ∧ lc = L2 := by
          rcases HFX.out with ⟨hf, hl, hc⟩ | ⟨hf, hl, hc⟩
          · rw [hneed, HA.out] at hf; cases hf
          · exact ⟨hl, hc⟩
        obtain ⟨rfl, rfl⟩ := hrm2
        clear hneed
        go_wp2_with fail
        refine (zzFodderIsCodes_any _ _ _ _ _ len3 _ z3 none 0 0 [] HLw.out (KW7.out.ints W3.out (by simp)) (Or.inl ⟨rfl, rfl, rfl, rfl⟩) HE1.out (by omega) ?_ ?_).mono ?_
        · intro j x hj hx
          rw [← HL1.out] at hx
          exact codes_same z3 len3 j x HZ1.out hj hx
        · intro j x hj; omega
        rintro e w8 ⟨rfl, k8⟩
        have cq8 := k8.cell cq7 (by simp)
        have K8 := Lib.hid (KW7.out.trans k8)
        have HC8 := Lib.hid (HCw.out.kept k8 (by simp))
        clear k8
        go_wp2_with fail
        refine (zzFodderIsCodes_any _ _ _ _ _ len4 _ z4 none 0 0 [] HC8.out (K8.out.ints W4.out (by simp)) (Or.inl ⟨rfl, rfl, rfl, rfl⟩) HE2.out (by omega) ?_ ?_).mono ?_
        · intro j x hj hx
          rw [← HL2.out] at hx
          exact codes_same z4 len4 j x HZ2.out hj hx
        · intro j x hj; omega
        rintro e w9 ⟨rfl, k9⟩
        go_wp2_with fail
        go_ret
        exact ⟨rfl, (K8.out.trans k9).below (Nat.le_refl _) (by simp)⟩

set_option maxRecDepth 100000 in
set_option maxHeartbeats 8000000 in
theorem walk_ftt (a0 : Int) (a2 : Int) (a3 : Option Addr) (len3 cap3 : Nat) (z3 : List Int) (a4 : Option Addr) (len4 cap4 : Nat) (z4 : List Int) (w : World) (_ : (Lit.int .i64 a0).wf = true) (h2 : (Lit.int .i32 a2).wf = true) (w3 : IsRow .i32 w a3 len3 cap3 z3) (w4 : IsRow .i32 w a4 len4 cap4 z4)
    (hA : anyNL ((z3.take len3).map cfe) = false) (hC : anyNL ((z4.take len4).map cfe) = true) :
    Calls Tryf.prog 3 #[.int .i64 a0, .bool true, .int .i32 a2, .slice a3 len3 cap3, .slice a4 len4 cap4] w fun e w' => e = .returned (.bool true) ∧ Below w.heap.size w w' := by
  obtain ⟨hlc, hcm, hzl, _, hcell⟩ := w3.open
  obtain ⟨hlc1, hcm1, hzl1, _, hcell1⟩ := w4.open
  unfold maxLen at hcm hcm1
  have hb0 : len3 ≤ 9223372036854775807 := by omega
  have hb1 : len4 ≤ 9223372036854775807 := by omega
  have hz1 : len3 ≤ z3.length := by omega
  have hz2 : len4 ≤ z4.length := by omega
  have W3 := Lib.hid w3; clear w3
  have W4 := Lib.hid w4; clear w4
  have HZ1 := Lib.hid hz1; clear hz1
  have HZ2 := Lib.hid hz2; clear hz2
  have H2 := Lib.hid h2; clear h2
  clear hcell hcell1 hzl hzl1
  obtain ⟨i0, hi, hz0, hz1, hz2⟩ := info_parts Tryf.infoCS
  have HI := Lib.hid hi; clear hi
  have HI0 := Lib.hid hz0; clear hz0
  have HI1 := Lib.hid hz1; clear hz1
  have HI2 := Lib.hid hz2; clear hz2
  obtain ⟨L1, hL1⟩ : ∃ L1, (z3.take len3).map cfe = L1 := ⟨_, rfl⟩
  obtain ⟨L2, hL2⟩ : ∃ L2, (z4.take len4).map cfe = L2 := ⟨_, rfl⟩
  have hl1 : L1.length = len3 := by rw [← hL1, List.length_map, List.length_take]; have := HZ1.out; omega
  have hl2 : L2.length = len4 := by rw [← hL2, List.length_map, List.length_take]; have := HZ2.out; omega
  have HL1 := Lib.hid hL1
  have HL2 := Lib.hid hL2
  rw [hL1] at hA
  rw [hL2] at hC
  have HC := Lib.hid hC; clear hC
  have HA := Lib.hid hA; clear hA hL1 hL2
  have HE1 := Lib.hid hl1; clear hl1
  have HE2 := Lib.hid hl2; clear hl2
  go_enter Tryf.func3, Tryf.ntmps3
  go_wp2_with fail
  refine (zzBytes_ArX _ _ _ _ _ _ _ _ _ _ hb0 hb1).mono ?_
  rintro e w' ⟨b, rfl, rfl⟩
  cases b
  · go_wp2_with fail
    go_ret
    exact ⟨rfl, Below.refl _ _⟩
  by_cases g619 : 65536 < len3
  · go_wp2_with fail
    go_ret
    exact ⟨rfl, Below.refl _ _⟩
  by_cases g932 : 65536 < len4
  · go_wp2_with fail
    go_ret
    exact ⟨rfl, Below.refl _ _⟩
  by_cases g510 : a0 < 0
  · go_wp2_with fail
    go_ret
    exact ⟨rfl, Below.refl _ _⟩
  by_cases g173 : 4096 < a0
  · go_wp2_with fail
    go_ret
    exact ⟨rfl, Below.refl _ _⟩
  obtain ⟨n, rfl⟩ : ∃ n : Nat, a0 = n := ⟨a0.toNat, by omega⟩
  have hn9 : n ≤ 4096 := by omega
  have N3 : len3 ≤ 65536 := by omega
  have N4 : len4 ≤ 65536 := by omega
  go_wp2_with fail
  refine (zzCodesBreak_any _ _ _ _ z3 W3.out).mono ?_
  rintro e w' ⟨rfl, rfl⟩
  rw [HL1.out, HA.out]
  go_wp2_with fail
  refine (zzCodesBreak_any _ _ _ _ z4 W4.out).mono ?_
  rintro e w' ⟨rfl, rfl⟩
  rw [HL2.out, HC.out]
  by_cases hn0 : n = 0
  · subst hn0
    go_wp2_with (at_make; refine wpList_make_full _ rfl _ _ 26 rfl (w.alloc (.cells #[.int .i32 a2] 21)).heap.size 46 i0 _ 2 Tryf.underlying26 HI.out HI0.out HI1.out _ _ _ _ 0 rfl rfl rfl rfl ?b2 ?b3 (Nat.le_refl _) ?_)
    case b2 => rw [HI2.out]; omega
    case b3 => unfold maxLen; omega
    intro w1 hown hgrow
    have K1 := Lib.hid (((Kept.refl [] w).alloc (.cells #[.int .i32 a2] 21)).grown hgrow (by simp)); clear hown hgrow
    obtain ⟨eb, hE2⟩ : ∃ eb, w.heap.size + 1 = eb := ⟨_, rfl⟩
    rw [hE2]
    clear hE2
    go_wp2_with fail
    go_loopw [16] (fun i wr => i = .int .i64 0 ∧ Kept [] w wr) (fun _ _ => 0)
    case atStart => exact ⟨rfl, K1.out⟩
    case round =>
      obtain ⟨rfl, hkw⟩ := hrel
      have HKW := Lib.hid hkw; clear hkw
      obtain ⟨wo, rfl⟩ : ∃ wo : World, wo = wr := ⟨_, rfl⟩
      go_wp2_with fail
      refine (zzFodder_any _ _ _ _ z4 (HKW.out.ints W4.out (by simp)) (by omega)).mono ?_
      rintro e x2 ⟨v2, rfl, hf2, k2⟩
      rw [HL2.out] at hf2
      obtain ⟨fa, fc, hv, -⟩ := hf2.slice
      obtain ⟨fn, hfn⟩ : ∃ fn, L2.length = fn := ⟨_, rfl⟩
      rw [hfn] at hv
      subst hv
      clear hfn
      have HF2 := Lib.hid hf2; clear hf2
      have K2 := Lib.hid (HKW.out.trans k2); clear k2
      go_wp2_with fail
      obtain ⟨nb, hnb⟩ : ∃ nb, x2.heap.size = nb := ⟨_, rfl⟩
      obtain ⟨W5, hW5⟩ : ∃ W5, x2.alloc (.cells #[.slice (some ⟨eb, 0, none⟩) 0 0, .slice fa fn fc, .slice none 0 0, .pointer none, .slice none 0 0, .pointer none, .string ⟨#[]⟩, .int .i64 0, .int .i64 0, .int .i64 0, .int .i64 0, .bool true] 55) = W5 := ⟨_, rfl⟩
      have k5 : Kept [] x2 W5 := hW5 ▸ (Kept.refl [] _).alloc _
      have x5 : W5.heap[nb]? = some (.cells #[.slice (some ⟨eb, 0, none⟩) 0 0, .slice fa fn fc, .slice none 0 0, .pointer none, .slice none 0 0, .pointer none, .string ⟨#[]⟩, .int .i64 0, .int .i64 0, .int .i64 0, .int .i64 0, .bool true] 55 (0, 0)) := by rw [← hW5, ← hnb]; exact heap_alloc_new _ _
      rw [hW5, hnb]
      have d0 := cell_of_block x5 0
      have d1 := cell_of_block x5 1
      have d11 := cell_of_block x5 11
      have HF5 := Lib.hid (HF2.out.kept k5 (by simp)); clear HF2
      have K5 := Lib.hid (K2.out.trans k5); clear K2 k5 x5 hW5
      refine (zzArray0 W5 nb _ 0 d0).mono ?_
      rintro e w6 ⟨rfl, k6⟩
      have e0 := k6.cell (d0.trans rfl) (by simp)
      have e1 := k6.cell (d1.trans rfl) (by simp)
      have e11 := k6.cell (d11.trans rfl) (by simp)
      have HF6 := Lib.hid (HF5.out.kept k6 (by simp)); clear HF5
      have K6 := Lib.hid (K5.out.trans k6); clear K5 k6 d0 d1 d11
      go_wp2_with fail
      refine (zzFodderIsCodes_any _ _ _ _ _ len4 _ z4 none 0 0 [] HF6.out (K6.out.ints W4.out (by simp)) (Or.inl ⟨rfl, rfl, rfl, rfl⟩) HE2.out (by omega) ?_ ?_).mono ?_
      · intro j x hj hx
        rw [← HL2.out] at hx
        exact codes_same z4 len4 j x HZ2.out hj hx
      · intro j x hj; omega
      rintro e w9 ⟨rfl, k9⟩
      go_wp2_with fail
      go_ret
      exact ⟨rfl, (K6.out.trans k9).below (Nat.le_refl _) (by simp)⟩
  obtain ⟨m, hm⟩ : ∃ m, n = m + 1 := ⟨n - 1, by omega⟩
  have HM := Lib.hid hm; clear hm
  have hnp : (0 : Int) < (n : Int) := by omega
  go_wp2_with fail
  refine (zzMergeRisk_any _ false _ _ _ _ _ _ z4 W4.out (by omega) (by omega)).mono ?_
  rintro e w' ⟨rfl, rfl⟩
  rw [show risk false len3 len4 z4 = false from rfl]
  go_wp2_with (at_make; refine wpList_make_full _ rfl _ _ 26 rfl (w.alloc (.cells #[.int .i32 a2] 21)).heap.size 46 i0 _ 2 Tryf.underlying26 HI.out HI0.out HI1.out _ _ _ _ n rfl rfl rfl rfl ?b2 ?b3 (Nat.le_refl _) ?_)
  case b2 => rw [HI2.out]; omega
  case b3 => unfold maxLen; omega
  intro w1 hown hgrow
  obtain ⟨eb, hE2⟩ : ∃ eb, w.heap.size + 1 = eb := ⟨_, rfl⟩
  rw [hE2] at hown ⊢
  obtain ⟨wM, hM0⟩ : ∃ wM, w.alloc (.cells #[.int .i32 a2] 21) = wM := ⟨_, rfl⟩
  have k1 : Kept [] wM w1 := hM0 ▸ (Kept.refl _ _).grown hgrow (by simp)
  have HMR : Hid (IsRow .i32 wM (some ⟨w.heap.size, 0, none⟩) 1 1 [a2]) := Lib.hid (hM0 ▸ mid_row w a2 H2.out)
  have HKM : Hid (Kept [] w wM) := Lib.hid (hM0 ▸ (Kept.refl [] w).alloc _)
  have hE4 : wM.heap.size = eb := by rw [← hM0, ← hE2]; simp
  have HF : Hid (Laid w1 eb n 0 m a2 L1) := Lib.hid ⟨fun _ => 0, fun _ => .slice none 0 0, fun _ => [], {
    es := fun i hi => by omega
    bf := fun j hj => by
      have hl := hown.1
      have := World.ownsRow.cells hown (g := eb) rfl j _ (List.getElem?_eq_getElem (by rw [hl]; omega))
      rw [add_off, Nat.zero_add] at this
      exact ⟨_, this⟩
    bz := fun o => World.ownsRow.frozenAt hown o
    el := (World.ownsRow.lt hown eb rfl).2
    inc := fun i j hij hj => by omega }, fun i hi => by omega⟩
  have K1 := Lib.hid k1; clear k1 hown hgrow
  have HE3 := Lib.hid hE4; clear hE2 hE4 hM0
  go_wp2_with fail
  go_loopw [16] (fun i wr => ∃ k : Nat, k ≤ n ∧ i = .int .i64 k ∧ Hid (Laid wr eb n k m a2 L1) ∧ Kept [] wM wr) (fun i _ => n - (intOf i).toNat)
  case atStart => exact ⟨0, Nat.zero_le _, rfl, HF, K1.out⟩
  case round =>
    obtain ⟨k, hk, rfl, HLD, hkw⟩ := hrel
    obtain ⟨xs, vs, ls, hp, hls⟩ := HLD.out
    have HP := Lib.hid hp; clear hp HLD
    have HLS := Lib.hid hls; clear hls
    have HKW := Lib.hid hkw; clear hkw
    obtain ⟨wo, rfl⟩ : ∃ wo : World, wo = wr := ⟨_, rfl⟩
    by_cases hlt : k < n
    · have b0 : ∀ o, ∃ u, (wo.alloc o).cell? ⟨eb, k * 2, none⟩ = some u := fun o => by
        obtain ⟨u, hu⟩ := HP.out.bf (k * 2) (by omega)
        exact ⟨u, ((Kept.refl [] wo).alloc o).cell hu (by simp)⟩
      have hel := HP.out.el
      have fz : ∀ o j, (wo.alloc o).frozen? ⟨eb, j, none⟩ = false := fun o j => (((Kept.refl [] wo).alloc o).frozen (p := ⟨eb, j, none⟩) hel (by simp)).trans (HP.out.bz j)
      obtain ⟨u0, hu0⟩ := b0 nullX
      have fz0 := fz nullX (k * 2)
      have nex : eb ≠ wo.heap.size := by omega
      have nex2 : wo.heap.size ≠ eb := by omega
      have i1 : (0 : Int) ≤ (k : Int) := by omega
      have i2 : (k : Int) < (n : Int) := by omega
      clear b0 fz
      obtain ⟨WB, hWB⟩ : ∃ WB, (wo.alloc nullX).setCell ⟨eb, k * 2, none⟩ (lnX wo.heap.size) = WB := ⟨_, rfl⟩
      have ka : Kept [] wo (wo.alloc nullX) := (Kept.refl [] _).alloc _
      have cx : (wo.alloc nullX).cell? ⟨wo.heap.size, 0, none⟩ = some (.slice none 0 0) := cell_of_block (heap_alloc_new wo _) 0
      have fx : (wo.alloc nullX).frozen? ⟨wo.heap.size, 0, none⟩ = false := frozen_of_block (heap_alloc_new wo _) 0
      have hq := ((HP.out.kept0 ka).put (k * 2) (Nat.le_refl _) (lnX wo.heap.size))
      rw [hWB] at hq
      have HSTEP : Hid (∀ wc u l, Kept [] WB wc → Fod wc (eb + 1) u l → (∀ g, u.ownBlock = some g → wo.heap.size < g) → l = lsOf m a2 L1 k → Laid (wc.setCell ⟨eb, k * 2 + 1, none⟩ u) eb n (k + 1) m a2 L1 ∧ Kept [] wM (wc.setCell ⟨eb, k * 2 + 1, none⟩ u)) := Lib.hid (fun wc u l kc hu hul hl => by
        obtain ⟨s1, s2⟩ := HP.out.step hlt (Nat.le_refl _) ka cx fx (by rw [hWB]; exact kc) hu hul
        refine ⟨⟨_, _, _, s1, fun i hi => ?_⟩, HKW.out.then s2 (fun g hg => Or.inr (by have := HE3.out; simp at hg; omega))⟩
        by_cases hik : i = k
        · subst hik; rw [upd_same]; exact hl
        · rw [upd_other _ _ hik]; exact HLS.out i (by omega))
      have HBF : Hid (∀ wc, Kept [] WB wc → (∃ u, wc.cell? ⟨eb, k * 2 + 1, none⟩ = some u) ∧ wc.frozen? ⟨eb, k * 2 + 1, none⟩ = false ∧ eb + 1 ≤ wc.heap.size ∧ wo.heap.size < wc.heap.size) := Lib.hid (fun wc kc => by
        have h1 := hq.kept0 kc
        refine ⟨h1.bf _ (by omega), h1.bz _, h1.el, ?_⟩
        have h2 := kc.size
        have h3 : WB.heap.size = wo.heap.size + 1 := by rw [← hWB]; simp [World.setCell]
        omega)
      have HWK : Hid (Kept [] wM WB) := Lib.hid (by
        rw [← hWB]
        exact (HKW.out.alloc _).setCell (Or.inr (by have := HE3.out; dsimp only; omega)) _)
      have HWS : Hid (WB.heap.size = wo.heap.size + 1) := Lib.hid (by rw [← hWB]; simp [World.setCell])
      clear cx fx ka hq
      by_cases hkm : k < m
      · have j1 : (k : Int) < (n : Int) - 1 := by have := HM.out; omega
        go_wp2_with fail
        refine (zzElem_any _ a2).mono ?_
        rintro e x2 ⟨rfl, k2⟩
        obtain ⟨Ek, Eb, Ei, hEc⟩ : ∃ k b i, cfe a2 = ⟨none, 0, 0, k, b, i⟩ := ⟨_, _, _, rfl⟩
        have hst := HSTEP.out (x2.alloc (.cells #[.slice none 0 0, .int .i64 Ek, .int .i64 Eb, .int .i64 Ei] 50)) (.slice (some ⟨x2.heap.size, 0, none⟩) 1 1) [⟨none, 0, 0, Ek, Eb, Ei⟩] (k2.alloc _)
          (fod_litX x2 (eb + 1) (HBF.out _ k2).2.2.1 ⟨none, 0, 0, Ek, Eb, Ei⟩) (fun g hg => by have := (HBF.out _ k2).2.2.2; simp [Value.ownBlock] at hg; omega) (by unfold lsOf; rw [if_pos hkm, hEc])
        have hbf := fun o => HBF.out _ (k2.alloc o)
        obtain ⟨⟨u1, hu1⟩, hf1, -, -⟩ := hbf (.cells #[.slice none 0 0, .int .i64 Ek, .int .i64 Eb, .int .i64 Ei] 50)
        have HST1 := Lib.hid hst.1
        have HST2 := Lib.hid hst.2
        rw [hEc]
        dsimp only
        clear hbf hst hEc k2 hWB
        go_wp2_with fail
        exact ⟨⟨k + 1, by omega, by go_num, HST1, HST2.out⟩, by simp [intOf]; omega⟩
      · have j1 : ¬ (k : Int) < (n : Int) - 1 := by have := HM.out; omega
        go_wp2_with fail
        refine (zzFodder_any _ _ _ _ z3 ((HKM.out.trans HWK.out).ints W3.out (by simp)) (by omega)).mono ?_
        rintro e x2 ⟨v2, rfl, hf2, k2⟩
        rw [HL1.out] at hf2
        obtain ⟨fa, fc, hv, -⟩ := hf2.slice
        obtain ⟨fn, hfn⟩ : ∃ fn, L1.length = fn := ⟨_, rfl⟩
        rw [hfn] at hv
        subst hv
        have hst := HSTEP.out x2 (.slice fa fn fc) L1 k2 (hf2.low (by have := (HBF.out _ k2).2.2.1; have := HWS.out; have := nex; have := hel; omega)) (fun g hg => by have := (World.ownsRow.lt hf2 g hg).1; have := HWS.out; omega) (by unfold lsOf; rw [if_neg hkm])
        obtain ⟨⟨u1, hu1⟩, hf1, -, -⟩ := HBF.out _ k2
        have HST1 := Lib.hid hst.1
        have HST2 := Lib.hid hst.2
        clear hst hf2 k2 hWB hfn
        go_wp2_with fail
        exact ⟨⟨k + 1, by omega, by go_num, HST1, HST2.out⟩, by simp [intOf]; omega⟩
    · obtain rfl : k = n := by omega
      go_wp2_with fail
      refine (zzFodder_any _ _ _ _ z4 ((HKM.out.trans HKW.out).ints W4.out (by simp)) (by omega)).mono ?_
      rintro e x2 ⟨v2, rfl, hf2, k2⟩
      rw [HL2.out] at hf2
      obtain ⟨fa, fc, hv, -⟩ := hf2.slice
      obtain ⟨fn, hfn⟩ : ∃ fn, L2.length = fn := ⟨_, rfl⟩
      rw [hfn] at hv
      subst hv
      clear hfn
      have hel := HP.out.el
      have HPm : Hid (ArP wo eb (m + 1) (m + 1) xs vs ls) := Lib.hid (by have := HP.out; rw [HM.out] at this; exact this)
      have HF2 := Lib.hid hf2; clear hf2
      have K2 := Lib.hid k2; clear k2
      go_wp2_with fail
      obtain ⟨nb, hnb⟩ : ∃ nb, x2.heap.size = nb := ⟨_, rfl⟩
      obtain ⟨W5, hW5⟩ : ∃ W5, x2.alloc (.cells #[.slice (some ⟨eb, 0, none⟩) k k, .slice fa fn fc, .slice none 0 0, .pointer none, .slice none 0 0, .pointer none, .string ⟨#[]⟩, .int .i64 0, .int .i64 0, .int .i64 0, .int .i64 0, .bool true] 55) = W5 := ⟨_, rfl⟩
      have k5 : Kept [] x2 W5 := hW5 ▸ (Kept.refl [] _).alloc _
      have x5 : W5.heap[nb]? = some (.cells #[.slice (some ⟨eb, 0, none⟩) k k, .slice fa fn fc, .slice none 0 0, .pointer none, .slice none 0 0, .pointer none, .string ⟨#[]⟩, .int .i64 0, .int .i64 0, .int .i64 0, .int .i64 0, .bool true] 55 (0, 0)) := by rw [← hW5, ← hnb]; exact heap_alloc_new _ _
      rw [hW5, hnb]
      have s2 := K2.out.size
      have hArr := ArP.done (nb := nb) (tc := true) HPm.out K2.out (HF2.out.low (by omega)) (fun g hg => (World.ownsRow.lt HF2.out g hg).1) k5 (Nat.le_of_eq hnb) x5 (by rw [HM.out]; rfl) rfl rfl
      have hlm : ls m = L1 := by rw [HLS.out m (by rw [HM.out]; exact Nat.lt_succ_self _)]; unfold lsOf; rw [if_neg (Nat.lt_irrefl _)]
      have hlc' : ∀ i, i < m → ls i = [cfe a2] := fun i hi => by rw [HLS.out i (by have := HM.out; omega)]; unfold lsOf; rw [if_pos hi]
      rw [hlm] at hArr
      have hvo : ∀ g, (vs m).ownBlock = some g → eb < g := fun g hg => by
        have := (World.ownsRow.lt (HPm.out.es m (Nat.lt_succ_self _)).2.2.1 g hg).1
        omega
      refine (zzArray W5 (eb + 1) nb eb m true (vs m) _ L1 L2 ls hArr (by have := HM.out; omega) (by rw [HE1.out, HE2.out]; omega) (by have := k5.size; omega) (by rw [← HL2.out]; exact cfe_head _ _)).mono ?_
      rintro e w6 ⟨rfl, ll, lc, vl, vc, hfx, hn6, hk6, -, -⟩
      have hk6' : Kept [] wM w6 := ((HKW.out.trans K2.out).trans k5).then hk6 (fun g hg => Or.inr (by
        have h1 := HE3.out
        have h2 := HKW.out.size
        simp only [List.mem_cons, Option.mem_toList] at hg
        rcases hg with rfl | rfl | hg
        · omega
        · omega
        · have := hvo g hg; omega))
      have hneed : (anyNL L2 || anyNL L1) = true := by rw [HA.out, HC.out]; rfl
      rw [hneed] at hn6
      have KW6 := Lib.hid (HKM.out.trans hk6')
      have KM6 := Lib.hid hk6'; clear hk6' hk6
      have ct := hn6.two.ct
      have cp := hn6.two.cp
      have cq := hn6.two.cq
      have c0 := hn6.c0
      rw [← HM.out] at c0
      have HL := Lib.hid hn6.two.l
      have HCF := Lib.hid hn6.two.c
      have HCM := Lib.hid hn6.cm
      have HLC := Lib.hid hlc'; clear hlc' hlm hArr hn6 hvo x5 k5 hW5 s2 hel
      obtain ⟨pa, pc, rfl, -⟩ := HL.out.slice
      obtain ⟨qa, qc, rfl, -⟩ := HCF.out.slice
      obtain ⟨pn, hpn⟩ : ∃ pn, ll.length = pn := ⟨_, rfl⟩
      obtain ⟨qn, hqn⟩ : ∃ qn, lc.length = qn := ⟨_, rfl⟩
      rw [hpn] at cp HL
      rw [hqn] at cq HCF
      have HFX := Lib.hid hfx; clear hfx
      have HPN := Lib.hid hpn; clear hpn
      have HQN := Lib.hid hqn; clear hqn
      clear HF2 HP HPm HLS HKW K2 hnb
      have hm9 : m ≤ 4096 := by have := HM.out; omega
      have hz9 : ((k : Int) == 0) = false := by have := HM.out; simp; omega
      have hw9 : IntKind.i64.wrap ((k : Int) - 1) = (m : Int) := by have := HM.out; rw [IntKind.wrap_i64]; omega
      go_wp2_with fail
      go_loopw [18] (fun i wr => ∃ j : Nat, j ≤ m ∧ i = .int .i64 j ∧ Kept [] w6 wr) (fun i _ => m - (intOf i).toNat)
      case atStart => exact ⟨0, Nat.zero_le _, rfl, Kept.refl _ _⟩
      case round =>
      obtain ⟨j, hj, rfl, hkw⟩ := hrel
      have HKW := Lib.hid hkw; clear hkw
      obtain ⟨w7, rfl⟩ : ∃ w7 : World, w7 = wr := ⟨_, rfl⟩
      have ct7 := HKW.out.cell ct (by simp)
      have cp7 := HKW.out.cell cp (by simp)
      have cq7 := HKW.out.cell cq (by simp)
      have c07 := HKW.out.cell c0 (by simp)
      clear ct cp cq c0
      by_cases hlt : j < m
      · obtain ⟨v, d1, d2, -⟩ := HCM.out j hlt
        rw [HLC.out j hlt] at d2
        obtain ⟨ea, ec, rfl, -⟩ := d2.slice
        have d17 := HKW.out.cell d1 (by simp)
        have HD := Lib.hid (d2.kept HKW.out (by simp))
        have i1 : (0 : Int) ≤ (j : Int) := by omega
        have i2 : (j : Int) < (k : Int) - 1 := by have := HM.out; omega
        have i3 : (j : Int) < (k : Int) := by have := HM.out; omega
        clear d1 d2
        go_wp2_with fail
        refine (zzFodderIsCodes_any _ _ _ [cfe a2] _ 1 _ [a2] none 0 0 [] HD.out ((KM6.out.trans HKW.out).ints HMR.out (by simp)) (Or.inl ⟨rfl, rfl, rfl, rfl⟩) rfl (by omega) ?_ ?_).mono ?_
        · intro q x hq hx
          obtain rfl : q = 0 := by omega
          obtain rfl : cfe a2 = x := by simpa using hx
          exact ⟨rfl, rfl, rfl, rfl, rfl⟩
        · intro q x hq; omega
        rintro e w8 ⟨rfl, k8⟩
        have K8 := Lib.hid (HKW.out.trans k8); clear k8
        go_wp2_with fail
        go_roundw
        case rel => exact ⟨j + 1, by omega, by go_num, K8.out⟩
        case measure => simp [intOf]; omega
      · obtain rfl : j = m := by omega
        have i1 : (0 : Int) ≤ (j : Int) := by omega
        have i2 : ¬ (j : Int) < (k : Int) - 1 := by have := HM.out; omega
        have i3 : (j : Int) < (k : Int) := by have := HM.out; omega
        have HLw := Lib.hid (HL.out.kept HKW.out (by simp))
        have HCw := Lib.hid (HCF.out.kept HKW.out (by simp))
        have KW7 := Lib.hid (KW6.out.trans HKW.out)
        clear HL HCF
        have hrm2 : ll = L1 ∧ lc = L2 := by
          rcases HFX.out with ⟨hf, hl, hc⟩ | ⟨hf, hl, hc⟩
          · rw [hneed, HA.out] at hf; cases hf
          · exact ⟨hl, hc⟩
        obtain ⟨rfl, rfl⟩ := hrm2
        clear hneed
        go_wp2_with fail
        refine (zzFodderIsCodes_any _ _ _ _ _ len3 _ z3 none 0 0 [] HLw.out (KW7.out.ints W3.out (by simp)) (Or.inl ⟨rfl, rfl, rfl, rfl⟩) HE1.out (by omega) ?_ ?_).mono ?_
        · intro j x hj hx
          rw [← HL1.out] at hx
          exact codes_same z3 len3 j x HZ1.out hj hx
        · intro j x hj; omega
        rintro e w8 ⟨rfl, k8⟩
        have cq8 := k8.cell cq7 (by simp)
        have K8 := Lib.hid (KW7.out.trans k8)
        have HC8 := Lib.hid (HCw.out.kept k8 (by simp))
        clear k8
        go_wp2_with fail
        refine (zzFodderIsCodes_any _ _ _ _ _ len4 _ z4 none 0 0 [] HC8.out (K8.out.ints W4.out (by simp)) (Or.inl ⟨rfl, rfl, rfl, rfl⟩) HE2.out (by omega) ?_ ?_).mono ?_
        · intro j x hj hx
          rw [← HL2.out] at hx
          exact codes_same z4 len4 j x HZ2.out hj hx
        · intro j x hj; omega
        rintro e w9 ⟨rfl, k9⟩
        go_wp2_with fail
        go_ret
        exact ⟨rfl, (K8.out.trans k9).below (Nat.le_refl _) (by simp)⟩

set_option maxRecDepth 100000 in
set_option maxHeartbeats 8000000 in
theorem walk_txf (a0 : Int) (a2 : Int) (a3 : Option Addr) (len3 cap3 : Nat) (z3 : List Int) (a4 : Option Addr) (len4 cap4 : Nat) (z4 : List Int) (w : World) (_ : (Lit.int .i64 a0).wf = true) (h2 : (Lit.int .i32 a2).wf = true) (w3 : IsRow .i32 w a3 len3 cap3 z3) (w4 : IsRow .i32 w a4 len4 cap4 z4)
    (hA : anyNL ((z3.take len3).map cfe) = true) :
    Calls Tryf.prog 3 #[.int .i64 a0, .bool false, .int .i32 a2, .slice a3 len3 cap3, .slice a4 len4 cap4] w fun e w' => e = .returned (.bool true) ∧ Below w.heap.size w w' := by
  obtain ⟨hlc, hcm, hzl, _, hcell⟩ := w3.open
  obtain ⟨hlc1, hcm1, hzl1, _, hcell1⟩ := w4.open
  unfold maxLen at hcm hcm1
  have hb0 : len3 ≤ 9223372036854775807 := by omega
  have hb1 : len4 ≤ 9223372036854775807 := by omega
  have hz1 : len3 ≤ z3.length := by omega
  have hz2 : len4 ≤ z4.length := by omega
  have W3 := Lib.hid w3; clear w3
  have W4 := Lib.hid w4; clear w4
  have HZ1 := Lib.hid hz1; clear hz1
  have HZ2 := Lib.hid hz2; clear hz2
  have H2 := Lib.hid h2; clear h2
  clear hcell hcell1 hzl hzl1
  obtain ⟨i0, hi, hz0, hz1, hz2⟩ := info_parts Tryf.infoCS
  have HI := Lib.hid hi; clear hi
  have HI0 := Lib.hid hz0; clear hz0
  have HI1 := Lib.hid hz1; clear hz1
  have HI2 := Lib.hid hz2; clear hz2
  obtain ⟨L1, hL1⟩ : ∃ L1, (z3.take len3).map cfe = L1 := ⟨_, rfl⟩
  obtain ⟨L2, hL2⟩ : ∃ L2, (z4.take len4).map cfe = L2 := ⟨_, rfl⟩
  have hl1 : L1.length = len3 := by rw [← hL1, List.length_map, List.length_take]; have := HZ1.out; omega
  have hl2 : L2.length = len4 := by rw [← hL2, List.length_map, List.length_take]; have := HZ2.out; omega
  have HL1 := Lib.hid hL1
  have HL2 := Lib.hid hL2
  rw [hL1] at hA
  have HA := Lib.hid hA; clear hA hL1 hL2
  have HE1 := Lib.hid hl1; clear hl1
  have HE2 := Lib.hid hl2; clear hl2
  go_enter Tryf.func3, Tryf.ntmps3
  go_wp2_with fail
  refine (zzBytes_ArX _ _ _ _ _ _ _ _ _ _ hb0 hb1).mono ?_
  rintro e w' ⟨b, rfl, rfl⟩
  cases b
  · go_wp2_with fail
    go_ret
    exact ⟨rfl, Below.refl _ _⟩
  by_cases g619 : 65536 < len3
  · go_wp2_with fail
    go_ret
    exact ⟨rfl, Below.refl _ _⟩
  by_cases g932 : 65536 < len4
  · go_wp2_with fail
    go_ret
    exact ⟨rfl, Below.refl _ _⟩
  by_cases g510 : a0 < 0
  · go_wp2_with fail
    go_ret
    exact ⟨rfl, Below.refl _ _⟩
  by_cases g173 : 4096 < a0
  · go_wp2_with fail
    go_ret
    exact ⟨rfl, Below.refl _ _⟩
  obtain ⟨n, rfl⟩ : ∃ n : Nat, a0 = n := ⟨a0.toNat, by omega⟩
  have hn9 : n ≤ 4096 := by omega
  have N3 : len3 ≤ 65536 := by omega
  have N4 : len4 ≤ 65536 := by omega
  go_wp2_with fail
  refine (zzCodesBreak_any _ _ _ _ z3 W3.out).mono ?_
  rintro e w' ⟨rfl, rfl⟩
  rw [HL1.out, HA.out]
  by_cases hn0 : n = 0
  · subst hn0
    go_wp2_with (at_make; refine wpList_make_full _ rfl _ _ 26 rfl (w.alloc (.cells #[.int .i32 a2] 21)).heap.size 46 i0 _ 2 Tryf.underlying26 HI.out HI0.out HI1.out _ _ _ _ 0 rfl rfl rfl rfl ?b2 ?b3 (Nat.le_refl _) ?_)
    case b2 => rw [HI2.out]; omega
    case b3 => unfold maxLen; omega
    intro w1 hown hgrow
    have K1 := Lib.hid (((Kept.refl [] w).alloc (.cells #[.int .i32 a2] 21)).grown hgrow (by simp)); clear hown hgrow
    obtain ⟨eb, hE2⟩ : ∃ eb, w.heap.size + 1 = eb := ⟨_, rfl⟩
    rw [hE2]
    clear hE2
    go_wp2_with fail
    go_loopw [16] (fun i wr => i = .int .i64 0 ∧ Kept [] w wr) (fun _ _ => 0)
    case atStart => exact ⟨rfl, K1.out⟩
    case round =>
      obtain ⟨rfl, hkw⟩ := hrel
      have HKW := Lib.hid hkw; clear hkw
      obtain ⟨wo, rfl⟩ : ∃ wo : World, wo = wr := ⟨_, rfl⟩
      go_wp2_with fail
      refine (zzFodder_any _ _ _ _ z4 (HKW.out.ints W4.out (by simp)) (by omega)).mono ?_
      rintro e x2 ⟨v2, rfl, hf2, k2⟩
      rw [HL2.out] at hf2
      obtain ⟨fa, fc, hv, -⟩ := hf2.slice
      obtain ⟨fn, hfn⟩ : ∃ fn, L2.length = fn := ⟨_, rfl⟩
      rw [hfn] at hv
      subst hv
      clear hfn
      have HF2 := Lib.hid hf2; clear hf2
      have K2 := Lib.hid (HKW.out.trans k2); clear k2
      go_wp2_with fail
      obtain ⟨nb, hnb⟩ : ∃ nb, x2.heap.size = nb := ⟨_, rfl⟩
      obtain ⟨W5, hW5⟩ : ∃ W5, x2.alloc (.cells #[.slice (some ⟨eb, 0, none⟩) 0 0, .slice fa fn fc, .slice none 0 0, .pointer none, .slice none 0 0, .pointer none, .string ⟨#[]⟩, .int .i64 0, .int .i64 0, .int .i64 0, .int .i64 0, .bool false] 55) = W5 := ⟨_, rfl⟩
      have k5 : Kept [] x2 W5 := hW5 ▸ (Kept.refl [] _).alloc _
      have x5 : W5.heap[nb]? = some (.cells #[.slice (some ⟨eb, 0, none⟩) 0 0, .slice fa fn fc, .slice none 0 0, .pointer none, .slice none 0 0, .pointer none, .string ⟨#[]⟩, .int .i64 0, .int .i64 0, .int .i64 0, .int .i64 0, .bool false] 55 (0, 0)) := by rw [← hW5, ← hnb]; exact heap_alloc_new _ _
      rw [hW5, hnb]
      have d0 := cell_of_block x5 0
      have d1 := cell_of_block x5 1
      have d11 := cell_of_block x5 11
      have HF5 := Lib.hid (HF2.out.kept k5 (by simp)); clear HF2
      have K5 := Lib.hid (K2.out.trans k5); clear K2 k5 x5 hW5
      refine (zzArray0 W5 nb _ 0 d0).mono ?_
      rintro e w6 ⟨rfl, k6⟩
      have e0 := k6.cell (d0.trans rfl) (by simp)
      have e1 := k6.cell (d1.trans rfl) (by simp)
      have e11 := k6.cell (d11.trans rfl) (by simp)
      have HF6 := Lib.hid (HF5.out.kept k6 (by simp)); clear HF5
      have K6 := Lib.hid (K5.out.trans k6); clear K5 k6 d0 d1 d11
      go_wp2_with fail
      refine (zzFodderIsCodes_any _ _ _ _ _ len4 _ z4 none 0 0 [] HF6.out (K6.out.ints W4.out (by simp)) (Or.inl ⟨rfl, rfl, rfl, rfl⟩) HE2.out (by omega) ?_ ?_).mono ?_
      · intro j x hj hx
        rw [← HL2.out] at hx
        exact codes_same z4 len4 j x HZ2.out hj hx
      · intro j x hj; omega
      rintro e w9 ⟨rfl, k9⟩
      go_wp2_with fail
      go_ret
      exact ⟨rfl, (K6.out.trans k9).below (Nat.le_refl _) (by simp)⟩
  obtain ⟨m, hm⟩ : ∃ m, n = m + 1 := ⟨n - 1, by omega⟩
  have HM := Lib.hid hm; clear hm
  have hnp : (0 : Int) < (n : Int) := by omega
  go_wp2_with fail
  refine (zzMergeRisk_any _ false _ _ _ _ _ _ z4 W4.out (by omega) (by omega)).mono ?_
  rintro e w' ⟨rfl, rfl⟩
  rw [show risk false len3 len4 z4 = false from rfl]
  go_wp2_with (at_make; refine wpList_make_full _ rfl _ _ 26 rfl (w.alloc (.cells #[.int .i32 a2] 21)).heap.size 46 i0 _ 2 Tryf.underlying26 HI.out HI0.out HI1.out _ _ _ _ n rfl rfl rfl rfl ?b2 ?b3 (Nat.le_refl _) ?_)
  case b2 => rw [HI2.out]; omega
  case b3 => unfold maxLen; omega
  intro w1 hown hgrow
  obtain ⟨eb, hE2⟩ : ∃ eb, w.heap.size + 1 = eb := ⟨_, rfl⟩
  rw [hE2] at hown ⊢
  obtain ⟨wM, hM0⟩ : ∃ wM, w.alloc (.cells #[.int .i32 a2] 21) = wM := ⟨_, rfl⟩
  have k1 : Kept [] wM w1 := hM0 ▸ (Kept.refl _ _).grown hgrow (by simp)
  have HMR : Hid (IsRow .i32 wM (some ⟨w.heap.size, 0, none⟩) 1 1 [a2]) := Lib.hid (hM0 ▸ mid_row w a2 H2.out)
  have HKM : Hid (Kept [] w wM) := Lib.hid (hM0 ▸ (Kept.refl [] w).alloc _)
  have hE4 : wM.heap.size = eb := by rw [← hM0, ← hE2]; simp
  have HF : Hid (Laid w1 eb n 0 m a2 L1) := Lib.hid ⟨fun _ => 0, fun _ => .slice none 0 0, fun _ => [], {
    es := fun i hi => by omega
    bf := fun j hj => by
      have hl := hown.1
      have := World.ownsRow.cells hown (g := eb) rfl j _ (List.getElem?_eq_getElem (by rw [hl]; omega))
      rw [add_off, Nat.zero_add] at this
      exact ⟨_, this⟩
    bz := fun o => World.ownsRow.frozenAt hown o
    el := (World.ownsRow.lt hown eb rfl).2
    inc := fun i j hij hj => by omega }, fun i hi => by omega⟩
  have K1 := Lib.hid k1; clear k1 hown hgrow
  have HE3 := Lib.hid hE4; clear hE2 hE4 hM0
  go_wp2_with fail
  go_loopw [16] (fun i wr => ∃ k : Nat, k ≤ n ∧ i = .int .i64 k ∧ Hid (Laid wr eb n k m a2 L1) ∧ Kept [] wM wr) (fun i _ => n - (intOf i).toNat)
  case atStart => exact ⟨0, Nat.zero_le _, rfl, HF, K1.out⟩
  case round =>
    obtain ⟨k, hk, rfl, HLD, hkw⟩ := hrel
    obtain ⟨xs, vs, ls, hp, hls⟩ := HLD.out
    have HP := Lib.hid hp; clear hp HLD
    have HLS := Lib.hid hls; clear hls
    have HKW := Lib.hid hkw; clear hkw
    obtain ⟨wo, rfl⟩ : ∃ wo : World, wo = wr := ⟨_, rfl⟩
    by_cases hlt : k < n
    · have b0 : ∀ o, ∃ u, (wo.alloc o).cell? ⟨eb, k * 2, none⟩ = some u := fun o => by
        obtain ⟨u, hu⟩ := HP.out.bf (k * 2) (by omega)
        exact ⟨u, ((Kept.refl [] wo).alloc o).cell hu (by simp)⟩
      have hel := HP.out.el
      have fz : ∀ o j, (wo.alloc o).frozen? ⟨eb, j, none⟩ = false := fun o j => (((Kept.refl [] wo).alloc o).frozen (p := ⟨eb, j, none⟩) hel (by simp)).trans (HP.out.bz j)
      obtain ⟨u0, hu0⟩ := b0 nullX
      have fz0 := fz nullX (k * 2)
      have nex : eb ≠ wo.heap.size := by omega
      have nex2 : wo.heap.size ≠ eb := by omega
      have i1 : (0 : Int) ≤ (k : Int) := by omega
      have i2 : (k : Int) < (n : Int) := by omega
      clear b0 fz
      obtain ⟨WB, hWB⟩ : ∃ WB, (wo.alloc nullX).setCell ⟨eb, k * 2, none⟩ (lnX wo.heap.size) = WB := ⟨_, rfl⟩
      have ka : Kept [] wo (wo.alloc nullX) := (Kept.refl [] _).alloc _
      have cx : (wo.alloc nullX).cell? ⟨wo.heap.size, 0, none⟩ = some (.slice none 0 0) := cell_of_block (heap_alloc_new wo _) 0
      have fx : (wo.alloc nullX).frozen? ⟨wo.heap.size, 0, none⟩ = false := frozen_of_block (heap_alloc_new wo _) 0
      have hq := ((HP.out.kept0 ka).put (k * 2) (Nat.le_refl _) (lnX wo.heap.size))
      rw [hWB] at hq
      have HSTEP : Hid (∀ wc u l, Kept [] WB wc → Fod wc (eb + 1) u l → (∀ g, u.ownBlock = some g → wo.heap.size < g) → l = lsOf m a2 L1 k → Laid (wc.setCell ⟨eb, k * 2 + 1, none⟩ u) eb n (k + 1) m a2 L1 ∧ Kept [] wM (wc.setCell ⟨eb, k * 2 + 1, none⟩ u)) := Lib.hid (fun wc u l kc hu hul hl => by
        obtain ⟨s1, s2⟩ := HP.out.step hlt (Nat.le_refl _) ka cx fx (by rw [hWB]; exact kc) hu hul
        refine ⟨⟨_, _, _, s1, fun i hi => ?_⟩, HKW.out.then s2 (fun g hg => Or.inr (by have := HE3.out; simp at hg; omega))⟩
        by_cases hik : i = k
        · subst hik; rw [upd_same]; exact hl
        · rw [upd_other _ _ hik]; exact HLS.out i (by omega))
      have HBF : Hid (∀ wc, Kept [] WB wc → (∃ u, wc.cell? ⟨eb, k * 2 + 1, none⟩ = some u) ∧ wc.frozen? ⟨eb, k * 2 + 1, none⟩ = false ∧ eb + 1 ≤ wc.heap.size ∧ wo.heap.size < wc.heap.size) := Lib.hid (fun wc kc => by
        have h1 := hq.kept0 kc
        refine ⟨h1.bf _ (by omega), h1.bz _, h1.el, ?_⟩
        have h2 := kc.size
        have h3 : WB.heap.size = wo.heap.size + 1 := by rw [← hWB]; simp [World.setCell]
        omega)
      have HWK : Hid (Kept [] wM WB) := Lib.hid (by
        rw [← hWB]
        exact (HKW.out.alloc _).setCell (Or.inr (by have := HE3.out; dsimp only; omega)) _)
      have HWS : Hid (WB.heap.size = wo.heap.size + 1) := Lib.hid (by rw [← hWB]; simp [World.setCell])
      clear cx fx ka hq
      by_cases hkm : k < m
      · have j1 : (k : Int) < (n : Int) - 1 := by have := HM.out; omega
        go_wp2_with fail
        refine (zzElem_any _ a2).mono ?_
        rintro e x2 ⟨rfl, k2⟩
        obtain ⟨Ek, Eb, Ei, hEc⟩ : ∃ k b i, cfe a2 = ⟨none, 0, 0, k, b, i⟩ := ⟨_, _, _, rfl⟩
        have hst := HSTEP.out (x2.alloc (.cells #[.slice none 0 0, .int .i64 Ek, .int .i64 Eb, .int .i64 Ei] 50)) (.slice (some ⟨x2.heap.size, 0, none⟩) 1 1) [⟨none, 0, 0, Ek, Eb, Ei⟩] (k2.alloc _)
          (fod_litX x2 (eb + 1) (HBF.out _ k2).2.2.1 ⟨none, 0, 0, Ek, Eb, Ei⟩) (fun g hg => by have := (HBF.out _ k2).2.2.2; simp [Value.ownBlock] at hg; omega) (by unfold lsOf; rw [if_pos hkm, hEc])
        have hbf := fun o => HBF.out _ (k2.alloc o)
        obtain ⟨⟨u1, hu1⟩, hf1, -, -⟩ := hbf (.cells #[.slice none 0 0, .int .i64 Ek, .int .i64 Eb, .int .i64 Ei] 50)
        have HST1 := Lib.hid hst.1
        have HST2 := Lib.hid hst.2
        rw [hEc]
        dsimp only
        clear hbf hst hEc k2 hWB
        go_wp2_with fail
        exact ⟨⟨k + 1, by omega, by go_num, HST1, HST2.out⟩, by simp [intOf]; omega⟩
      · have j1 : ¬ (k : Int) < (n : Int) - 1 := by have := HM.out; omega
        go_wp2_with fail
        refine (zzFodder_any _ _ _ _ z3 ((HKM.out.trans HWK.out).ints W3.out (by simp)) (by omega)).mono ?_
        rintro e x2 ⟨v2, rfl, hf2, k2⟩
        rw [HL1.out] at hf2
        obtain ⟨fa, fc, hv, -⟩ := hf2.slice
        obtain ⟨fn, hfn⟩ : ∃ fn, L1.length = fn := ⟨_, rfl⟩
        rw [hfn] at hv
        subst hv
        have hst := HSTEP.out x2 (.slice fa fn fc) L1 k2 (hf2.low (by have := (HBF.out _ k2).2.2.1; have := HWS.out; have := nex; have := hel; omega)) (fun g hg => by have := (World.ownsRow.lt hf2 g hg).1; have := HWS.out; omega) (by unfold lsOf; rw [if_neg hkm])
        obtain ⟨⟨u1, hu1⟩, hf1, -, -⟩ := HBF.out _ k2
        have HST1 := Lib.hid hst.1
        have HST2 := Lib.hid hst.2
        clear hst hf2 k2 hWB hfn
        go_wp2_with fail
        exact ⟨⟨k + 1, by omega, by go_num, HST1, HST2.out⟩, by simp [intOf]; omega⟩
    · obtain rfl : k = n := by omega
      go_wp2_with fail
      refine (zzFodder_any _ _ _ _ z4 ((HKM.out.trans HKW.out).ints W4.out (by simp)) (by omega)).mono ?_
      rintro e x2 ⟨v2, rfl, hf2, k2⟩
      rw [HL2.out] at hf2
      obtain ⟨fa, fc, hv, -⟩ := hf2.slice
      obtain ⟨fn, hfn⟩ : ∃ fn, L2.length = fn := ⟨_, rfl⟩
      rw [hfn] at hv
      subst hv
      clear hfn
      have hel := HP.out.el
      have HPm : Hid (ArP wo eb (m + 1) (m + 1) xs vs ls) := Lib.hid (by have := HP.out; rw [HM.out] at this; exact this)
      have HF2 := Lib.hid hf2; clear hf2
      have K2 := Lib.hid k2; clear k2
      go_wp2_with fail
      obtain ⟨nb, hnb⟩ : ∃ nb, x2.heap.size = nb := ⟨_, rfl⟩
      obtain ⟨W5, hW5⟩ : ∃ W5, x2.alloc (.cells #[.slice (some ⟨eb, 0, none⟩) k k, .slice fa fn fc, .slice none 0 0, .pointer none, .slice none 0 0, .pointer none, .string ⟨#[]⟩, .int .i64 0, .int .i64 0, .int .i64 0, .int .i64 0, .bool false] 55) = W5 := ⟨_, rfl⟩
      have k5 : Kept [] x2 W5 := hW5 ▸ (Kept.refl [] _).alloc _
      have x5 : W5.heap[nb]? = some (.cells #[.slice (some ⟨eb, 0, none⟩) k k, .slice fa fn fc, .slice none 0 0, .pointer none, .slice none 0 0, .pointer none, .string ⟨#[]⟩, .int .i64 0, .int .i64 0, .int .i64 0, .int .i64 0, .bool false] 55 (0, 0)) := by rw [← hW5, ← hnb]; exact heap_alloc_new _ _
      rw [hW5, hnb]
      have s2 := K2.out.size
      have hArr := ArP.done (nb := nb) (tc := false) HPm.out K2.out (HF2.out.low (by omega)) (fun g hg => (World.ownsRow.lt HF2.out g hg).1) k5 (Nat.le_of_eq hnb) x5 (by rw [HM.out]; rfl) rfl rfl
      have hlm : ls m = L1 := by rw [HLS.out m (by rw [HM.out]; exact Nat.lt_succ_self _)]; unfold lsOf; rw [if_neg (Nat.lt_irrefl _)]
      have hlc' : ∀ i, i < m → ls i = [cfe a2] := fun i hi => by rw [HLS.out i (by have := HM.out; omega)]; unfold lsOf; rw [if_pos hi]
      rw [hlm] at hArr
      have hvo : ∀ g, (vs m).ownBlock = some g → eb < g := fun g hg => by
        have := (World.ownsRow.lt (HPm.out.es m (Nat.lt_succ_self _)).2.2.1 g hg).1
        omega
      refine (zzArray W5 (eb + 1) nb eb m false (vs m) _ L1 L2 ls hArr (by have := HM.out; omega) (by rw [HE1.out, HE2.out]; omega) (by have := k5.size; omega) (by rw [← HL2.out]; exact cfe_head _ _)).mono ?_
      rintro e w6 ⟨rfl, ll, lc, vl, vc, hfx, hn6, hk6, -, -⟩
      have hk6' : Kept [] wM w6 := ((HKW.out.trans K2.out).trans k5).then hk6 (fun g hg => Or.inr (by
        have h1 := HE3.out
        have h2 := HKW.out.size
        simp only [List.mem_cons, Option.mem_toList] at hg
        rcases hg with rfl | rfl | hg
        · omega
        · omega
        · have := hvo g hg; omega))
      have hneed : (anyNL L2 || anyNL L1) = true := by rw [HA.out]; cases anyNL L2 <;> rfl
      rw [hneed] at hn6
      have KW6 := Lib.hid (HKM.out.trans hk6')
      have KM6 := Lib.hid hk6'; clear hk6' hk6
      have ct := hn6.two.ct
      have cp := hn6.two.cp
      have cq := hn6.two.cq
      have c0 := hn6.c0
      rw [← HM.out] at c0
      have HL := Lib.hid hn6.two.l
      have HCF := Lib.hid hn6.two.c
      have HCM := Lib.hid hn6.cm
      have HLC := Lib.hid hlc'; clear hlc' hlm hArr hn6 hvo x5 k5 hW5 s2 hel
      obtain ⟨pa, pc, rfl, -⟩ := HL.out.slice
      obtain ⟨qa, qc, rfl, -⟩ := HCF.out.slice
      obtain ⟨pn, hpn⟩ : ∃ pn, ll.length = pn := ⟨_, rfl⟩
      obtain ⟨qn, hqn⟩ : ∃ qn, lc.length = qn := ⟨_, rfl⟩
      rw [hpn] at cp HL
      rw [hqn] at cq HCF
      have HFX := Lib.hid hfx; clear hfx
      have HPN := Lib.hid hpn; clear hpn
      have HQN := Lib.hid hqn; clear hqn
      clear HF2 HP HPm HLS HKW K2 hnb
      have hm9 : m ≤ 4096 := by have := HM.out; omega
      have hz9 : ((k : Int) == 0) = false := by have := HM.out; simp; omega
      have hw9 : IntKind.i64.wrap ((k : Int) - 1) = (m : Int) := by have := HM.out; rw [IntKind.wrap_i64]; omega
      go_wp2_with fail
      go_loopw [18] (fun i wr => ∃ j : Nat, j ≤ m ∧ i = .int .i64 j ∧ Kept [] w6 wr) (fun i _ => m - (intOf i).toNat)
      case atStart => exact ⟨0, Nat.zero_le _, rfl, Kept.refl _ _⟩
      case round =>
      obtain ⟨j, hj, rfl, hkw⟩ := hrel
      have HKW := Lib.hid hkw; clear hkw
      obtain ⟨w7, rfl⟩ : ∃ w7 : World, w7 = wr := ⟨_, rfl⟩
      have ct7 := HKW.out.cell ct (by simp)
      have cp7 := HKW.out.cell cp (by simp)
      have cq7 := HKW.out.cell cq (by simp)
      have c07 := HKW.out.cell c0 (by simp)
      clear ct cp cq c0
      by_cases hlt : j < m
      · obtain ⟨v, d1, d2, -⟩ := HCM.out j hlt
        rw [HLC.out j hlt] at d2
        obtain ⟨ea, ec, rfl, -⟩ := d2.slice
        have d17 := HKW.out.cell d1 (by simp)
        have HD := Lib.hid (d2.kept HKW.out (by simp))
        have i1 : (0 : Int) ≤ (j : Int) := by omega
        have i2 : (j : Int) < (k : Int) - 1 := by have := HM.out; omega
        have i3 : (j : Int) < (k : Int) := by have := HM.out; omega
        clear d1 d2
        go_wp2_with fail
        refine (zzFodderIsCodes_any _ _ _ [cfe a2] _ 1 _ [a2] none 0 0 [] HD.out ((KM6.out.trans HKW.out).ints HMR.out (by simp)) (Or.inl ⟨rfl, rfl, rfl, rfl⟩) rfl (by omega) ?_ ?_).mono ?_
        · intro q x hq hx
          obtain rfl : q = 0 := by omega
          obtain rfl : cfe a2 = x := by simpa using hx
          exact ⟨rfl, rfl, rfl, rfl, rfl⟩
        · intro q x hq; omega
        rintro e w8 ⟨rfl, k8⟩
        have K8 := Lib.hid (HKW.out.trans k8); clear k8
        go_wp2_with fail
        go_roundw
        case rel => exact ⟨j + 1, by omega, by go_num, K8.out⟩
        case measure => simp [intOf]; omega
      · obtain rfl : j = m := by omega
        have i1 : (0 : Int) ≤ (j : Int) := by omega
        have i2 : ¬ (j : Int) < (k : Int) - 1 := by have := HM.out; omega
        have i3 : (j : Int) < (k : Int) := by have := HM.out; omega
        have HLw := Lib.hid (HL.out.kept HKW.out (by simp))
        have HCw := Lib.hid (HCF.out.kept HKW.out (by simp))
        have KW7 := Lib.hid (KW6.out.trans HKW.out)
        clear HL HCF
        have hrm2 : ll = L1 ∧ lc = L2 := by
          rcases HFX.out with ⟨hf, hl, hc⟩ | ⟨hf, hl, hc⟩
          · rw [hneed, HA.out] at hf; cases hf
          · exact ⟨hl, hc⟩
        obtain ⟨rfl, rfl⟩ := hrm2
        clear hneed
        go_wp2_with fail
        refine (zzFodderIsCodes_any _ _ _ _ _ len3 _ z3 none 0 0 [] HLw.out (KW7.out.ints W3.out (by simp)) (Or.inl ⟨rfl, rfl, rfl, rfl⟩) HE1.out (by omega) ?_ ?_).mono ?_
        · intro j x hj hx
          rw [← HL1.out] at hx
          exact codes_same z3 len3 j x HZ1.out hj hx
        · intro j x hj; omega
        rintro e w8 ⟨rfl, k8⟩
        have cq8 := k8.cell cq7 (by simp)
        have K8 := Lib.hid (KW7.out.trans k8)
        have HC8 := Lib.hid (HCw.out.kept k8 (by simp))
        clear k8
        go_wp2_with fail
        refine (zzFodderIsCodes_any _ _ _ _ _ len4 _ z4 none 0 0 [] HC8.out (K8.out.ints W4.out (by simp)) (Or.inl ⟨rfl, rfl, rfl, rfl⟩) HE2.out (by omega) ?_ ?_).mono ?_
        · intro j x hj hx
          rw [← HL2.out] at hx
          exact codes_same z4 len4 j x HZ2.out hj hx
        · intro j x hj; omega
        rintro e w9 ⟨rfl, k9⟩
        go_wp2_with fail
        go_ret
        exact ⟨rfl, (K8.out.trans k9).below (Nat.le_refl _) (by simp)⟩

set_option maxRecDepth 100000 in
set_option maxHeartbeats 8000000 in
theorem walk_txt (a0 : Int) (a2 : Int) (a3 : Option Addr) (len3 cap3 : Nat) (z3 : List Int) (a4 : Option Addr) (len4 cap4 : Nat) (z4 : List Int) (w : World) (_ : (Lit.int .i64 a0).wf = true) (h2 : (Lit.int .i32 a2).wf = true) (w3 : IsRow .i32 w a3 len3 cap3 z3) (w4 : IsRow .i32 w a4 len4 cap4 z4)
    (hA : anyNL ((z3.take len3).map cfe) = true) :
    Calls Tryf.prog 3 #[.int .i64 a0, .bool true, .int .i32 a2, .slice a3 len3 cap3, .slice a4 len4 cap4] w fun e w' => e = .returned (.bool true) ∧ Below w.heap.size w w' := by
  obtain ⟨hlc, hcm, hzl, _, hcell⟩ := w3.open
  obtain ⟨hlc1, hcm1, hzl1, _, hcell1⟩ := w4.open
  unfold maxLen at hcm hcm1
  have hb0 : len3 ≤ 9223372036854775807 := by omega
  have hb1 : len4 ≤ 9223372036854775807 := by omega
  have hz1 : len3 ≤ z3.length := by omega
  have hz2 : len4 ≤ z4.length := by omega
  have W3 := Lib.hid w3; clear w3
  have W4 := Lib.hid w4; clear w4
  have HZ1 := Lib.hid hz1; clear hz1
  have HZ2 := Lib.hid hz2; clear hz2
  have H2 := Lib.hid h2; clear h2
  clear hcell hcell1 hzl hzl1
  obtain ⟨i0, hi, hz0, hz1, hz2⟩ := info_parts Tryf.infoCS
  have HI := Lib.hid hi; clear hi
  have HI0 := Lib.hid hz0; clear hz0
  have HI1 := Lib.hid hz1; clear hz1
  have HI2 := Lib.hid hz2; clear hz2
  obtain ⟨L1, hL1⟩ : ∃ L1, (z3.take len3).map cfe = L1 := ⟨_, rfl⟩
  obtain ⟨L2, hL2⟩ : ∃ L2, (z4.take len4).map cfe = L2 := ⟨_, rfl⟩
  have hl1 : L1.length = len3 := by rw [← hL1, List.length_map, List.length_take]; have := HZ1.out; omega
  have hl2 : L2.length = len4 := by rw [← hL2, List.length_map, List.length_take]; have := HZ2.out; omega
  have HL1 := Lib.hid hL1
  have HL2 := Lib.hid hL2
  rw [hL1] at hA
  have HA := Lib.hid hA; clear hA hL1 hL2
  have HE1 := Lib.hid hl1; clear hl1
  have HE2 := Lib.hid hl2; clear hl2
  go_enter Tryf.func3, Tryf.ntmps3
  go_wp2_with fail
  refine (zzBytes_ArX _ _ _ _ _ _ _ _ _ _ hb0 hb1).mono ?_
  rintro e w' ⟨b, rfl, rfl⟩
  cases b
  · go_wp2_with fail
    go_ret
    exact ⟨rfl, Below.refl _ _⟩
  by_cases g619 : 65536 < len3
  · go_wp2_with fail
    go_ret
    exact ⟨rfl, Below.refl _ _⟩
  by_cases g932 : 65536 < len4
  · go_wp2_with fail
    go_ret
    exact ⟨rfl, Below.refl _ _⟩
  by_cases g510 : a0 < 0
  · go_wp2_with fail
    go_ret
    exact ⟨rfl, Below.refl _ _⟩
  by_cases g173 : 4096 < a0
  · go_wp2_with fail
    go_ret
    exact ⟨rfl, Below.refl _ _⟩
  obtain ⟨n, rfl⟩ : ∃ n : Nat, a0 = n := ⟨a0.toNat, by omega⟩
  have hn9 : n ≤ 4096 := by omega
  have N3 : len3 ≤ 65536 := by omega
  have N4 : len4 ≤ 65536 := by omega
  go_wp2_with fail
  refine (zzCodesBreak_any _ _ _ _ z3 W3.out).mono ?_
  rintro e w' ⟨rfl, rfl⟩
  rw [HL1.out, HA.out]
  by_cases hn0 : n = 0
  · subst hn0
    go_wp2_with (at_make; refine wpList_make_full _ rfl _ _ 26 rfl (w.alloc (.cells #[.int .i32 a2] 21)).heap.size 46 i0 _ 2 Tryf.underlying26 HI.out HI0.out HI1.out _ _ _ _ 0 rfl rfl rfl rfl ?b2 ?b3 (Nat.le_refl _) ?_)
    case b2 => rw [HI2.out]; omega
    case b3 => unfold maxLen; omega
    intro w1 hown hgrow
    have K1 := Lib.hid (((Kept.refl [] w).alloc (.cells #[.int .i32 a2] 21)).grown hgrow (by simp)); clear hown hgrow
    obtain ⟨eb, hE2⟩ : ∃ eb, w.heap.size + 1 = eb := ⟨_, rfl⟩
    rw [hE2]
    clear hE2
    go_wp2_with fail
    go_loopw [16] (fun i wr => i = .int .i64 0 ∧ Kept [] w wr) (fun _ _ => 0)
    case atStart => exact ⟨rfl, K1.out⟩
    case round =>
      obtain ⟨rfl, hkw⟩ := hrel
      have HKW := Lib.hid hkw; clear hkw
      obtain ⟨wo, rfl⟩ : ∃ wo : World, wo = wr := ⟨_, rfl⟩
      go_wp2_with fail
      refine (zzFodder_any _ _ _ _ z4 (HKW.out.ints W4.out (by simp)) (by omega)).mono ?_
      rintro e x2 ⟨v2, rfl, hf2, k2⟩
      rw [HL2.out] at hf2
      obtain ⟨fa, fc, hv, -⟩ := hf2.slice
      obtain ⟨fn, hfn⟩ : ∃ fn, L2.length = fn := ⟨_, rfl⟩
      rw [hfn] at hv
      subst hv
      clear hfn
      have HF2 := Lib.hid hf2; clear hf2
      have K2 := Lib.hid (HKW.out.trans k2); clear k2
      go_wp2_with fail
      obtain ⟨nb, hnb⟩ : ∃ nb, x2.heap.size = nb := ⟨_, rfl⟩
      obtain ⟨W5, hW5⟩ : ∃ W5, x2.alloc (.cells #[.slice (some ⟨eb, 0, none⟩) 0 0, .slice fa fn fc, .slice none 0 0, .pointer none, .slice none 0 0, .pointer none, .string ⟨#[]⟩, .int .i64 0, .int .i64 0, .int .i64 0, .int .i64 0, .bool true] 55) = W5 := ⟨_, rfl⟩
      have k5 : Kept [] x2 W5 := hW5 ▸ (Kept.refl [] _).alloc _
      have x5 : W5.heap[nb]? = some (.cells #[.slice (some ⟨eb, 0, none⟩) 0 0, .slice fa fn fc, .slice none 0 0, .pointer none, .slice none 0 0, .pointer none, .string ⟨#[]⟩, .int .i64 0, .int .i64 0, .int .i64 0, .int .i64 0, .bool true] 55 (0, 0)) := by rw [← hW5, ← hnb]; exact heap_alloc_new _ _
      rw [hW5, hnb]
      have d0 := cell_of_block x5 0
      have d1 := cell_of_block x5 1
      have d11 := cell_of_block x5 11
      have HF5 := Lib.hid (HF2.out.kept k5 (by simp)); clear HF2
      have K5 := Lib.hid (K2.out.trans k5); clear K2 k5 x5 hW5
      refine (zzArray0 W5 nb _ 0 d0).mono ?_
      rintro e w6 ⟨rfl, k6⟩
      have e0 := k6.cell (d0.trans rfl) (by simp)
      have e1 := k6.cell (d1.trans rfl) (by simp)
      have e11 := k6.cell (d11.trans rfl) (by simp)
      have HF6 := Lib.hid (HF5.out.kept k6 (by simp)); clear HF5
      have K6 := Lib.hid (K5.out.trans k6); clear K5 k6 d0 d1 d11
      go_wp2_with fail
      refine (zzFodderIsCodes_any _ _ _ _ _ len4 _ z4 none 0 0 [] HF6.out (K6.out.ints W4.out (by simp)) (Or.inl ⟨rfl, rfl, rfl, rfl⟩) HE2.out (by omega) ?_ ?_).mono ?_
      · intro j x hj hx
        rw [← HL2.out] at hx
        exact codes_same z4 len4 j x HZ2.out hj hx
      · intro j x hj; omega
      rintro e w9 ⟨rfl, k9⟩
      go_wp2_with fail
      go_ret
      exact ⟨rfl, (K6.out.trans k9).below (Nat.le_refl _) (by simp)⟩
  obtain ⟨m, hm⟩ : ∃ m, n = m + 1 := ⟨n - 1, by omega⟩
  have HM := Lib.hid hm; clear hm
  have hnp : (0 : Int) < (n : Int) := by omega
  go_wp2_with fail
  refine (zzMergeRisk_any _ true _ _ _ _ _ _ z4 W4.out (by omega) (by omega)).mono ?_
  rintro e w' ⟨rfl, rfl⟩
  obtain ⟨R, hR⟩ : ∃ R, risk true len3 len4 z4 = R := ⟨_, rfl⟩
  rw [hR]
  have HR := Lib.hid hR; clear hR
  cases R
  rotate_left 1
  · go_wp2_with fail
    go_ret
    exact ⟨rfl, Below.refl _ _⟩
  go_wp2_with (at_make; refine wpList_make_full _ rfl _ _ 26 rfl (w.alloc (.cells #[.int .i32 a2] 21)).heap.size 46 i0 _ 2 Tryf.underlying26 HI.out HI0.out HI1.out _ _ _ _ n rfl rfl rfl rfl ?b2 ?b3 (Nat.le_refl _) ?_)
  case b2 => rw [HI2.out]; omega
  case b3 => unfold maxLen; omega
  intro w1 hown hgrow
  obtain ⟨eb, hE2⟩ : ∃ eb, w.heap.size + 1 = eb := ⟨_, rfl⟩
  rw [hE2] at hown ⊢
  obtain ⟨wM, hM0⟩ : ∃ wM, w.alloc (.cells #[.int .i32 a2] 21) = wM := ⟨_, rfl⟩
  have k1 : Kept [] wM w1 := hM0 ▸ (Kept.refl _ _).grown hgrow (by simp)
  have HMR : Hid (IsRow .i32 wM (some ⟨w.heap.size, 0, none⟩) 1 1 [a2]) := Lib.hid (hM0 ▸ mid_row w a2 H2.out)
  have HKM : Hid (Kept [] w wM) := Lib.hid (hM0 ▸ (Kept.refl [] w).alloc _)
  have hE4 : wM.heap.size = eb := by rw [← hM0, ← hE2]; simp
  have HF : Hid (Laid w1 eb n 0 m a2 L1) := Lib.hid ⟨fun _ => 0, fun _ => .slice none 0 0, fun _ => [], {
    es := fun i hi => by omega
    bf := fun j hj => by
      have hl := hown.1
      have := World.ownsRow.cells hown (g := eb) rfl j _ (List.getElem?_eq_getElem (by rw [hl]; omega))
      rw [add_off, Nat.zero_add] at this
      exact ⟨_, this⟩
    bz := fun o => World.ownsRow.frozenAt hown o
    el := (World.ownsRow.lt hown eb rfl).2
    inc := fun i j hij hj => by omega }, fun i hi => by omega⟩
  have K1 := Lib.hid k1; clear k1 hown hgrow
  have HE3 := Lib.hid hE4; clear hE2 hE4 hM0
  go_wp2_with fail
  go_loopw [16] (fun i wr => ∃ k : Nat, k ≤ n ∧ i = .int .i64 k ∧ Hid (Laid wr eb n k m a2 L1) ∧ Kept [] wM wr) (fun i _ => n - (intOf i).toNat)
  case atStart => exact ⟨0, Nat.zero_le _, rfl, HF, K1.out⟩
  case round =>
    obtain ⟨k, hk, rfl, HLD, hkw⟩ := hrel
    obtain ⟨xs, vs, ls, hp, hls⟩ := HLD.out
    have HP := Lib.hid hp; clear hp HLD
    have HLS := Lib.hid hls; clear hls
    have HKW := Lib.hid hkw; clear hkw
    obtain ⟨wo, rfl⟩ : ∃ wo : World, wo = wr := ⟨_, rfl⟩
    by_cases hlt : k < n
    · have b0 : ∀ o, ∃ u, (wo.alloc o).cell? ⟨eb, k * 2, none⟩ = some u := fun o => by
        obtain ⟨u, hu⟩ := HP.out.bf (k * 2) (by omega)
        exact ⟨u, ((Kept.refl [] wo).alloc o).cell hu (by simp)⟩
      have hel := HP.out.el
      have fz : ∀ o j, (wo.alloc o).frozen? ⟨eb, j, none⟩ = false := fun o j => (((Kept.refl [] wo).alloc o).frozen (p := ⟨eb, j, none⟩) hel (by simp)).trans (HP.out.bz j)
      obtain ⟨u0, hu0⟩ := b0 nullX
      have fz0 := fz nullX (k * 2)
      have nex : eb ≠ wo.heap.size := by omega
      have nex2 : wo.heap.size ≠ eb := by omega
      have i1 : (0 : Int) ≤ (k : Int) := by omega
      have i2 : (k : Int) < (n : Int) := by omega
      clear b0 fz
      obtain ⟨WB, hWB⟩ : ∃ WB, (wo.alloc nullX).setCell ⟨eb, k * 2, none⟩ (lnX wo.heap.size) = WB := ⟨_, rfl⟩
      have ka : Kept [] wo (wo.alloc nullX) := (Kept.refl [] _).alloc _
      have cx : (wo.alloc nullX).cell? ⟨wo.heap.size, 0, none⟩ = some (.slice none 0 0) := cell_of_block (heap_alloc_new wo _) 0
      have fx : (wo.alloc nullX).frozen? ⟨wo.heap.size, 0, none⟩ = false := frozen_of_block (heap_alloc_new wo _) 0
      have hq := ((HP.out.kept0 ka).put (k * 2) (Nat.le_refl _) (lnX wo.heap.size))
      rw [hWB] at hq
      have HSTEP : Hid (∀ wc u l, Kept [] WB wc → Fod wc (eb + 1) u l → (∀ g, u.ownBlock = some g → wo.heap.size < g) → l = lsOf m a2 L1 k → Laid (wc.setCell ⟨eb, k * 2 + 1, none⟩ u) eb n (k + 1) m a2 L1 ∧ Kept [] wM (wc.setCell ⟨eb, k * 2 + 1, none⟩ u)) := Lib.hid (fun wc u l kc hu hul hl => by
        obtain ⟨s1, s2⟩ := HP.out.step hlt (Nat.le_refl _) ka cx fx (by rw [hWB]; exact kc) hu hul
        refine ⟨⟨_, _, _, s1, fun i hi => ?_⟩, HKW.out.then s2 (fun g hg => Or.inr (by have := HE3.out; simp at hg; omega))⟩
        by_cases hik : i = k
        · subst hik; rw [upd_same]; exact hl
        · rw [upd_other _ _ hik]; exact HLS.out i (by omega))
      have HBF : Hid (∀ wc, Kept [] WB wc → (∃ u, wc.cell? ⟨eb, k * 2 + 1, none⟩ = some u) ∧ wc.frozen? ⟨eb, k * 2 + 1, none⟩ = false ∧ eb + 1 ≤ wc.heap.size ∧ wo.heap.size < wc.heap.size) := Lib.hid (fun wc kc => by
        have h1 := hq.kept0 kc
        refine ⟨h1.bf _ (by omega), h1.bz _, h1.el, ?_⟩
        have h2 := kc.size
        have h3 : WB.heap.size = wo.heap.size + 1 := by rw [← hWB]; simp [World.setCell]
        omega)
      have HWK : Hid (Kept [] wM WB) := Lib.hid (by
        rw [← hWB]
        exact (HKW.out.alloc _).setCell (Or.inr (by have := HE3.out; dsimp only; omega)) _)
      have HWS : Hid (WB.heap.size = wo.heap.size + 1) := Lib.hid (by rw [← hWB]; simp [World.setCell])
      clear cx fx ka hq
      by_cases hkm : k < m
      · have j1 : (k : Int) < (n : Int) - 1 := by have := HM.out; omega
        go_wp2_with fail
        refine (zzElem_any _ a2).mono ?_
        rintro e x2 ⟨rfl, k2⟩
        obtain ⟨Ek, Eb, Ei, hEc⟩ : ∃ k b i, cfe a2 = ⟨none, 0, 0, k, b, i⟩ := ⟨_, _, _, rfl⟩
        have hst := HSTEP.out (x2.alloc (.cells #[.slice none 0 0, .int .i64 Ek, .int .i64 Eb, .int .i64 Ei] 50)) (.slice (some ⟨x2.heap.size, 0, none⟩) 1 1) [⟨none, 0, 0, Ek, Eb, Ei⟩] (k2.alloc _)
          (fod_litX x2 (eb + 1) (HBF.out _ k2).2.2.1 ⟨none, 0, 0, Ek, Eb, Ei⟩) (fun g hg => by have := (HBF.out _ k2).2.2.2; simp [Value.ownBlock] at hg; omega) (by unfold lsOf; rw [if_pos hkm, hEc])
        have hbf := fun o => HBF.out _ (k2.alloc o)
        obtain ⟨⟨u1, hu1⟩, hf1, -, -⟩ := hbf (.cells #[.slice none 0 0, .int .i64 Ek, .int .i64 Eb, .int .i64 Ei] 50)
        have HST1 := Lib.hid hst.1
        have HST2 := Lib.hid hst.2
        rw [hEc]
        dsimp only
        clear hbf hst hEc k2 hWB
        go_wp2_with fail
        exact ⟨⟨k + 1, by omega, by go_num, HST1, HST2.out⟩, by simp [intOf]; omega⟩
      · have j1 : ¬ (k : Int) < (n : Int) - 1 := by have := HM.out; omega
        go_wp2_with fail
        refine (zzFodder_any _ _ _ _ z3 ((HKM.out.trans HWK.out).ints W3.out (by simp)) (by omega)).mono ?_
        rintro e x2 ⟨v2, rfl, hf2, k2⟩
        rw [HL1.out] at hf2
        obtain ⟨fa, fc, hv, -⟩ := hf2.slice
        obtain ⟨fn, hfn⟩ : ∃ fn, L1.length = fn := ⟨_, rfl⟩
        rw [hfn] at hv
        subst hv
        have hst := HSTEP.out x2 (.slice fa fn fc) L1 k2 (hf2.low (by have := (HBF.out _ k2).2.2.1; have := HWS.out; have := nex; have := hel; omega)) (fun g hg => by have := (World.ownsRow.lt hf2 g hg).1; have := HWS.out; omega) (by unfold lsOf; rw [if_neg hkm])
        obtain ⟨⟨u1, hu1⟩, hf1, -, -⟩ := HBF.out _ k2
        have HST1 := Lib.hid hst.1
        have HST2 := Lib.hid hst.2
        clear hst hf2 k2 hWB hfn
        go_wp2_with fail
        exact ⟨⟨k + 1, by omega, by go_num, HST1, HST2.out⟩, by simp [intOf]; omega⟩
    · obtain rfl : k = n := by omega
      go_wp2_with fail
      refine (zzFodder_any _ _ _ _ z4 ((HKM.out.trans HKW.out).ints W4.out (by simp)) (by omega)).mono ?_
      rintro e x2 ⟨v2, rfl, hf2, k2⟩
      rw [HL2.out] at hf2
      obtain ⟨fa, fc, hv, -⟩ := hf2.slice
      obtain ⟨fn, hfn⟩ : ∃ fn, L2.length = fn := ⟨_, rfl⟩
      rw [hfn] at hv
      subst hv
      clear hfn
      have hel := HP.out.el
      have HPm : Hid (ArP wo eb (m + 1) (m + 1) xs vs ls) := Lib.hid (by have := HP.out; rw [HM.out] at this; exact this)
      have HF2 := Lib.hid hf2; clear hf2
      have K2 := Lib.hid k2; clear k2
      go_wp2_with fail
      obtain ⟨nb, hnb⟩ : ∃ nb, x2.heap.size = nb := ⟨_, rfl⟩
      obtain ⟨W5, hW5⟩ : ∃ W5, x2.alloc (.cells #[.slice (some ⟨eb, 0, none⟩) k k, .slice fa fn fc, .slice none 0 0, .pointer none, .slice none 0 0, .pointer none, .string ⟨#[]⟩, .int .i64 0, .int .i64 0, .int .i64 0, .int .i64 0, .bool true] 55) = W5 := ⟨_, rfl⟩
      have k5 : Kept [] x2 W5 := hW5 ▸ (Kept.refl [] _).alloc _
      have x5 : W5.heap[nb]? = some (.cells #[.slice (some ⟨eb, 0, none⟩) k k, .slice fa fn fc, .slice none 0 0, .pointer none, .slice none 0 0, .pointer none, .string ⟨#[]⟩, .int .i64 0, .int .i64 0, .int .i64 0, .int .i64 0, .bool true] 55 (0, 0)) := by rw [← hW5, ← hnb]; exact heap_alloc_new _ _
      rw [hW5, hnb]
      have s2 := K2.out.size
      have hArr := ArP.done (nb := nb) (tc := true) HPm.out K2.out (HF2.out.low (by omega)) (fun g hg => (World.ownsRow.lt HF2.out g hg).1) k5 (Nat.le_of_eq hnb) x5 (by rw [HM.out]; rfl) rfl rfl
      have hlm : ls m = L1 := by rw [HLS.out m (by rw [HM.out]; exact Nat.lt_succ_self _)]; unfold lsOf; rw [if_neg (Nat.lt_irrefl _)]
      have hlc' : ∀ i, i < m → ls i = [cfe a2] := fun i hi => by rw [HLS.out i (by have := HM.out; omega)]; unfold lsOf; rw [if_pos hi]
      rw [hlm] at hArr
      have hvo : ∀ g, (vs m).ownBlock = some g → eb < g := fun g hg => by
        have := (World.ownsRow.lt (HPm.out.es m (Nat.lt_succ_self _)).2.2.1 g hg).1
        omega
      refine (zzArray W5 (eb + 1) nb eb m true (vs m) _ L1 L2 ls hArr (by have := HM.out; omega) (by rw [HE1.out, HE2.out]; omega) (by have := k5.size; omega) (by rw [← HL2.out]; exact cfe_head _ _)).mono ?_
      rintro e w6 ⟨rfl, ll, lc, vl, vc, hfx, hn6, hk6, -, -⟩
      have hk6' : Kept [] wM w6 := ((HKW.out.trans K2.out).trans k5).then hk6 (fun g hg => Or.inr (by
        have h1 := HE3.out
        have h2 := HKW.out.size
        simp only [List.mem_cons, Option.mem_toList] at hg
        rcases hg with rfl | rfl | hg
        · omega
        · omega
        · have := hvo g hg; omega))
      have hneed : (anyNL L2 || anyNL L1) = true := by rw [HA.out]; cases anyNL L2 <;> rfl
      rw [hneed] at hn6
      have KW6 := Lib.hid (HKM.out.trans hk6')
      have KM6 := Lib.hid hk6'; clear hk6' hk6
      have ct := hn6.two.ct
      have cp := hn6.two.cp
      have cq := hn6.two.cq
      have c0 := hn6.c0
      rw [← HM.out] at c0
      have HL := Lib.hid hn6.two.l
      have HCF := Lib.hid hn6.two.c
      have HCM := Lib.hid hn6.cm
      have HLC := Lib.hid hlc'; clear hlc' hlm hArr hn6 hvo x5 k5 hW5 s2 hel
      obtain ⟨pa, pc, rfl, -⟩ := HL.out.slice
      obtain ⟨qa, qc, rfl, -⟩ := HCF.out.slice
      obtain ⟨pn, hpn⟩ : ∃ pn, ll.length = pn := ⟨_, rfl⟩
      obtain ⟨qn, hqn⟩ : ∃ qn, lc.length = qn := ⟨_, rfl⟩
      rw [hpn] at cp HL
      rw [hqn] at cq HCF
      have HFX := Lib.hid hfx; clear hfx
      have HPN := Lib.hid hpn; clear hpn
      have HQN := Lib.hid hqn; clear hqn
      clear HF2 HP HPm HLS HKW K2 hnb
      have hm9 : m ≤ 4096 := by have := HM.out; omega
      have hz9 : ((k : Int) == 0) = false := by have := HM.out; simp; omega
      have hw9 : IntKind.i64.wrap ((k : Int) - 1) = (m : Int) := by have := HM.out; rw [IntKind.wrap_i64]; omega
      go_wp2_with fail
      go_loopw [18] (fun i wr => ∃ j : Nat, j ≤ m ∧ i = .int .i64 j ∧ Kept [] w6 wr) (fun i _ => m - (intOf i).toNat)
      case atStart => exact ⟨0, Nat.zero_le _, rfl, Kept.refl _ _⟩
      case round =>
      obtain ⟨j, hj, rfl, hkw⟩ := hrel
      have HKW := Lib.hid hkw; clear hkw
      obtain ⟨w7, rfl⟩ : ∃ w7 : World, w7 = wr := ⟨_, rfl⟩
      have ct7 := HKW.out.cell ct (by simp)
      have cp7 := HKW.out.cell cp (by simp)
      have cq7 := HKW.out.cell cq (by simp)
      have c07 := HKW.out.cell c0 (by simp)
      clear ct cp cq c0
      by_cases hlt : j < m
      · obtain ⟨v, d1, d2, -⟩ := HCM.out j hlt
        rw [HLC.out j hlt] at d2
        obtain ⟨ea, ec, rfl, -⟩ := d2.slice
        have d17 := HKW.out.cell d1 (by simp)
        have HD := Lib.hid (d2.kept HKW.out (by simp))
        have i1 : (0 : Int) ≤ (j : Int) := by omega
        have i2 : (j : Int) < (k : Int) - 1 := by have := HM.out; omega
        have i3 : (j : Int) < (k : Int) := by have := HM.out; omega
        clear d1 d2
        go_wp2_with fail
        refine (zzFodderIsCodes_any _ _ _ [cfe a2] _ 1 _ [a2] none 0 0 [] HD.out ((KM6.out.trans HKW.out).ints HMR.out (by simp)) (Or.inl ⟨rfl, rfl, rfl, rfl⟩) rfl (by omega) ?_ ?_).mono ?_
        · intro q x hq hx
          obtain rfl : q = 0 := by omega
          obtain rfl : cfe a2 = x := by simpa using hx
          exact ⟨rfl, rfl, rfl, rfl, rfl⟩
        · intro q x hq; omega
        rintro e w8 ⟨rfl, k8⟩
        have K8 := Lib.hid (HKW.out.trans k8); clear k8
        go_wp2_with fail
        go_roundw
        case rel => exact ⟨j + 1, by omega, by go_num, K8.out⟩
        case measure => simp [intOf]; omega
      · obtain rfl : j = m := by omega
        have i1 : (0 : Int) ≤ (j : Int) := by omega
        have i2 : ¬ (j : Int) < (k : Int) - 1 := by have := HM.out; omega
        have i3 : (j : Int) < (k : Int) := by have := HM.out; omega
        have HLw := Lib.hid (HL.out.kept HKW.out (by simp))
        have HCw := Lib.hid (HCF.out.kept HKW.out (by simp))
        have KW7 := Lib.hid (KW6.out.trans HKW.out)
        clear HL HCF
        have hrm2 : ll = [] ∧ lc = L1 ++ L2 := by
          rcases HFX.out with ⟨hf, hl, hc⟩ | ⟨hf, hl, hc⟩
          · refine ⟨hl, ?_⟩
            rw [← HL1.out, ← HL2.out] at hc ⊢
            exact conc_plain HZ1.out HZ2.out HR.out hc
          · rw [hneed, HA.out] at hf; cases hf
        have hp0 : pn = 0 := by rw [← HPN.out, hrm2.1]; rfl
        have hql : lc.length ≤ 9223372036854775807 := by rw [hrm2.2, List.length_append, HE1.out, HE2.out]; omega
        subst hp0
        have HRM := Lib.hid hrm2; clear hrm2 hneed hql
        go_wp2_with fail
        refine (zzFodderIsCodes_any _ _ _ lc _ len3 _ z3 _ len4 _ z4 HCw.out (KW7.out.ints W3.out (by simp)) (KW7.out.ints W4.out (by simp)) (by rw [HRM.out.2, List.length_append, HE1.out, HE2.out]) (by omega) ?_ ?_).mono ?_
        · intro j x hj hx
          rw [HRM.out.2] at hx
          rw [List.getElem?_append_left (by rw [HE1.out]; exact hj), ← HL1.out] at hx
          exact codes_same z3 len3 j x HZ1.out hj hx
        · intro j x hj hx
          rw [HRM.out.2] at hx
          rw [List.getElem?_append_right (by rw [HE1.out]; omega), HE1.out, Nat.add_sub_cancel_left, ← HL2.out] at hx
          exact codes_same z4 len4 j x HZ2.out hj hx
        rintro e w8 ⟨rfl, k8⟩
        go_wp2_with fail
        go_ret
        exact ⟨rfl, (KW7.out.trans k8).below (Nat.le_refl _) (by simp)⟩

namespace fnArrayExactSpec
theorem walk (a0 : Int) (a1 : Bool) (a2 : Int) (a3 : Option Addr) (len3 cap3 : Nat) (z3 : List Int) (a4 : Option Addr) (len4 cap4 : Nat) (z4 : List Int) (w : World) (h0 : (Lit.int .i64 a0).wf = true) (h2 : (Lit.int .i32 a2).wf = true) (w3 : IsRow .i32 w a3 len3 cap3 z3) (w4 : IsRow .i32 w a4 len4 cap4 z4) :
    Calls Tryf.prog 3 #[.int .i64 a0, .bool a1, .int .i32 a2, .slice a3 len3 cap3, .slice a4 len4 cap4] w fun e w' => e = .returned (.bool true) ∧ Below w.heap.size w w' := by
  cases hA : anyNL ((z3.take len3).map cfe)
  · cases hC : anyNL ((z4.take len4).map cfe)
    · cases a1
      · exact walk_fff a0 a2 a3 len3 cap3 z3 a4 len4 cap4 z4 w h0 h2 w3 w4 hA hC
      · exact walk_fft a0 a2 a3 len3 cap3 z3 a4 len4 cap4 z4 w h0 h2 w3 w4 hA hC
    · cases a1
      · exact walk_ftf a0 a2 a3 len3 cap3 z3 a4 len4 cap4 z4 w h0 h2 w3 w4 hA hC
      · exact walk_ftt a0 a2 a3 len3 cap3 z3 a4 len4 cap4 z4 w h0 h2 w3 w4 hA hC
  · cases a1
    · exact walk_txf a0 a2 a3 len3 cap3 z3 a4 len4 cap4 z4 w h0 h2 w3 w4 hA
    · exact walk_txt a0 a2 a3 len3 cap3 z3 a4 len4 cap4 z4 w h0 h2 w3 w4 hA
end fnArrayExactSpec
end Go.Proofs.YtnfhhmadkiogbaaFmt
