/- The contract of n008_142's zzSnapSpec. -/
import Derived.Test.YtgpefdmgcigajaaFmtEq
namespace Go.Proofs.YtgpefdmgcigajaaFmt
attribute [local go_sem ↓] Go.wp_at_zero Go.wp_at_succ
open Go.ChangeShapes Go.WideShapes Go.ChangeAt Go.RowKit

theorem flatG_set {α : Type} {enc : α → List Value} {c : Nat} (he : ∀ y, (enc y).length = c) (l : List α) (i : Nat) (y y' : α) (h : l[i]? = some y) (j : Nat) (hj : j < c) (u : Value) (hc : enc y' = (enc y).set j u) :
    (flatG enc l).set (i * c + j) u = flatG enc (l.set i y') := by
  induction l generalizing i with
  | nil => simp at h
  | cons x l ih =>
    cases i with
    | zero =>
      simp only [List.getElem?_cons_zero, Option.some.injEq] at h
      subst h
      simp only [flatG, Nat.zero_mul, Nat.zero_add, List.set_cons_zero]
      rw [List.set_append_left _ _ (by rw [he]; exact hj), hc]
    | succ i =>
      simp only [List.getElem?_cons_succ] at h
      simp only [flatG, List.set_cons_succ]
      rw [List.set_append_right _ _ (by rw [he, Nat.succ_mul]; omega), ← ih i h]
      congr 2
      rw [he, Nat.succ_mul]; omega
theorem OwnR.set {α : Type} {T c : Nat} {enc : α → List Value} {w : World} {base g n cap : Nat} {l : List α} (h : OwnR T c enc w base (.slice (some ⟨g, 0, none⟩) n cap) l) (he : ∀ y, (enc y).length = c) (i : Nat) (y y' : α) (hy : l[i]? = some y) (j : Nat) (hj : j < c) (u : Value) (hc : enc y' = (enc y).set j u) :
    OwnR T c enc (w.setCell ⟨g, i * c + j, none⟩ u) base (.slice (some ⟨g, 0, none⟩) n cap) (l.set i y') := by
  have hn : n = l.length := by
    obtain ⟨a', cap', hv, _⟩ := h.slice
    injection hv
  subst hn
  have := (World.ownsRow.stored h (i * c + j) u).1
  rw [flatG_set he l i y y' hy j hj u hc] at this
  unfold OwnR
  rw [List.length_set]
  exact this
theorem made_pairs (n : Nat) : (madeCells #[.slice none 0 0, .slice none 0 0] (n * 2)).toList = flatG encP (List.replicate n (((none, 0, 0), (none, 0, 0)) : Trip × Trip)) := by
  apply List.ext_getElem?
  intro j
  by_cases hj : j < n * 2
  · have e : j = (j / 2) * 2 + j % 2 := by omega
    have h4 : j % 2 < 2 := Nat.mod_lt _ (by omega)
    have hl : (flatG encP (List.replicate n (((none, 0, 0), (none, 0, 0)) : Trip × Trip)))[j]? = (encP (((none, 0, 0), (none, 0, 0)) : Trip × Trip))[j % 2]? := by
      have := flatG_get encP_len (List.replicate n (((none, 0, 0), (none, 0, 0)) : Trip × Trip)) (j / 2) (by simp; omega) (j % 2) h4
      rw [← e] at this
      simpa using this
    rw [hl]
    simp only [madeCells, Array.toList_map, List.getElem?_map, Array.toList_range]
    rw [List.getElem?_range hj]
    simp only [Option.map_some, List.size_toArray, List.length_cons, List.length_nil]
    generalize j % 2 = r at h4
    match r, h4 with
    | 0, _ => rfl
    | 1, _ => rfl
  · rw [List.getElem?_eq_none (by simp [madeCells]; omega), List.getElem?_eq_none (by rw [flatG_length encP_len]; simp; omega)]

/-- What zzSnapSpec writes of a level. -/
def snapSE (P : Pl) (l : Nat × Nat → List FE) (i : Nat) : SE := ⟨codes (l (i, 0)), (List.range (P.m i)).map fun j => codes (l (i, j + 1))⟩
def snaps (P : Pl) (l : Nat × Nat → List FE) (n : Nat) : List SE := (List.range n).map (snapSE P l)
theorem Sn.snaps (P : Pl) (l : Nat × Nat → List FE) (n : Nat) : Sn P l n (snaps P l n) := by
  intro i s hi hs
  unfold Go.Proofs.YtgpefdmgcigajaaFmt.snaps at hs
  rw [List.getElem?_map, List.getElem?_range hi] at hs
  obtain rfl : snapSE P l i = s := by simpa using hs
  refine ⟨by simp [snapSE], rfl, fun j d hd => ?_⟩
  simp only [snapSE, List.getElem?_map] at hd
  have hj : j < P.m i := by
    by_cases hj : j < P.m i
    · exact hj
    · rw [List.getElem?_eq_none (by simp; omega)] at hd; cases hd
  rw [List.getElem?_range hj] at hd
  simpa using hd

/-- The levels from k on are written. -/
def Fill (w : World) (B n k : Nat) (P : Pl) (l : Nat × Nat → List FE) : Prop :=
  ∃ us : List (Trip × Trip), OwnR 86 2 encP w B (.slice (some ⟨B, 0, none⟩) n n) us ∧ us.length = n ∧ ∀ (i : Nat) u, k ≤ i → us[i]? = some u → SpO w B u (snapSE P l i)
theorem Fill.kept0 {w w' : World} {B n k : Nat} {P : Pl} {l : Nat × Nat → List FE} (h : Fill w B n k P l) (q : Kept [] w w') : Fill w' B n k P l := by
  obtain ⟨us, h1, h2, h3⟩ := h
  exact ⟨us, h1.kept0 q, h2, fun i u hi hu => (h3 i u hi hu).kept0 q⟩
theorem Fill.free {w : World} {B n k : Nat} {P : Pl} {l : Nat × Nat → List FE} (h : Fill w B n k P l) (i : Nat) (hi : i < n) : (∃ x y, w.cell? ⟨B, i * 2, none⟩ = some x ∧ w.cell? ⟨B, i * 2 + 1, none⟩ = some y) ∧ ∀ o, w.frozen? ⟨B, o, none⟩ = false := by
  obtain ⟨us, h1, h2, h3⟩ := h
  subst h2
  refine ⟨?_, fun o => World.ownsRow.frozenAt h1 o⟩
  have c0 := h1.cell encP_len i (by omega) 0 (by omega)
  have c1 := h1.cell encP_len i (by omega) 1 (by omega)
  exact ⟨_, _, c0, c1⟩
theorem Fill.step {w : World} {B n k : Nat} {P : Pl} {l : Nat × Nat → List FE} (h : Fill w B n (k + 1) P l) (hk : k < n) {t1 t2 : Trip} (hs : SpO w B (t1, t2) (snapSE P l k)) :
    Fill ((w.setCell ⟨B, k * 2, none⟩ t1.val).setCell ⟨B, k * 2 + 1, none⟩ t2.val) B n k P l := by
  obtain ⟨us, h1, h2, h3⟩ := h
  have hku : k < us.length := by omega
  have e0 := List.getElem?_eq_getElem hku
  have g1 := h1.set encP_len k us[k] (t1, us[k].2) e0 0 (by omega) t1.val rfl
  have g2 := g1.set encP_len k (t1, us[k].2) (t1, t2) (by rw [List.getElem?_set_self hku]) 1 (by omega) t2.val rfl
  rw [List.set_set] at g2
  have ty := h1.typ
  have q : Kept [B] w ((w.setCell ⟨B, k * 2, none⟩ t1.val).setCell ⟨B, k * 2 + 1, none⟩ t2.val) := ((Kept.refl [B] w).setCell (p := ⟨B, k * 2, none⟩) (Or.inl (by simp)) _).setCell (p := ⟨B, k * 2 + 1, none⟩) (Or.inl (by simp)) _
  have tyB : ∀ g ∈ [B], ∃ cs, w.heap[g]? = some (.cells cs 86 (0, 0)) := fun g hg => by
    simp at hg; subst hg; exact ty g (by simp [Value.ownBlock])
  refine ⟨us.set k (t1, t2), g2, by rw [List.length_set]; exact h2, fun i u hi hu => ?_⟩
  rw [List.getElem?_set] at hu
  by_cases hki : k = i
  · subst hki
    rw [if_pos rfl, if_pos hku] at hu
    obtain rfl : (t1, t2) = u := by simpa using hu
    exact hs.keptT q tyB (by decide) (by decide)
  · rw [if_neg hki] at hu
    exact (h3 i u (by omega) hu).keptT q tyB (by decide) (by decide)
theorem Fill.done {w : World} {B n : Nat} {P : Pl} {l : Nat × Nat → List FE} (h : Fill w B n 0 P l) : RdS w (some ⟨B, 0, none⟩) n n (snaps P l n) := by
  obtain ⟨us, h1, h2, h3⟩ := h
  refine SpsO.rds (base := B) ⟨us, h1, by simp [snaps, h2], fun i u s hu hs => ?_⟩
  unfold snaps at hs
  have hi : i < n := by
    by_cases hi : i < n
    · exact hi
    · rw [List.getElem?_eq_none (by simp; omega)] at hs; cases hs
  rw [List.getElem?_map, List.getElem?_range hi] at hs
  obtain rfl : snapSE P l i = s := by simpa using hs
  exact h3 i u (Nat.zero_le _) hu

set_option maxRecDepth 100000 in
set_option maxHeartbeats 8000000 in
theorem zzSnapSpec_any (w : World) (base n : Nat) (P : Pl) (v : Nat × Nat → Value) (l : Nat × Nat → List FE) (hC : Chn w n P) (hF : ChF w base n P v l) (hll : ∀ x, P.In n x → (l x).length ≤ 1048577) (hn : n ≤ 1048576) (so : Option Addr) (hso : P.out n = .pointer so) :
    Calls Tryf.prog 34 #[.pointer so, .int .i64 n] w fun e w' => ∃ a c, e = .returned (.slice a n c) ∧ RdS w' a n c (snaps P l n) ∧ Kept [] w w' := by
  have HC := Lib.hid hC; clear hC
  have HF := Lib.hid hF; clear hF
  have HLL := Lib.hid hll; clear hll
  have HSO := Lib.hid hso; clear hso
  obtain ⟨i0, hi, hz0, hz1, hz2⟩ := info_parts Tryf.infoSp
  have HI := Lib.hid hi; clear hi
  have HI0 := Lib.hid hz0; clear hz0
  have HI1 := Lib.hid hz1; clear hz1
  have HI2 := Lib.hid hz2; clear hz2
  obtain ⟨r0, hi, hz0, hz1, hz2⟩ := info_parts Tryf.infoRow
  have HR := Lib.hid hi; clear hi
  have HR0 := Lib.hid hz0; clear hz0
  have HR1 := Lib.hid hz1; clear hz1
  have HR2 := Lib.hid hz2; clear hz2
  go_enter Tryf.func34, Tryf.ntmps34
  go_wp2_with (at_make; refine wpList_make_full _ rfl _ _ 22 rfl w.heap.size 86 i0 _ 2 Tryf.underlying22 HI.out HI0.out HI1.out _ _ _ _ n rfl rfl rfl rfl ?b2 ?b3 (Nat.le_refl _) ?_)
  case b2 => rw [HI2.out]; omega
  case b3 => unfold maxLen; omega
  intro w1 hown hgrow
  obtain ⟨B, hB⟩ : ∃ B, w.heap.size = B := ⟨_, rfl⟩
  rw [hB] at hown ⊢
  have hf : Fill w1 B n n P l := ⟨List.replicate n ((none, 0, 0), (none, 0, 0)), by unfold OwnR; rw [List.length_replicate, ← made_pairs]; exact hown, by simp, fun i u hi hu => by rw [List.getElem?_eq_none (by simp; omega)] at hu; cases hu⟩
  have hb : Kept [] w w1 := (Kept.refl _ _).grown hgrow (by simp)
  clear hown hgrow
  have HBB := Lib.hid hB; clear hB
  have HFL := Lib.hid hf; clear hf
  have HB := Lib.hid hb; clear hb
  go_wp2_with fail
  go_loopw [6, 7] (fun c i wr => ∃ k : Nat, k ≤ n ∧ i = .int .i64 ((k : Int) - 1) ∧ c = P.out k ∧ Kept [] w wr ∧ Fill wr B n k P l) (fun _ i _ => (intOf i + 1).toNat)
  case atStart => exact ⟨n, Nat.le_refl _, by go_num, HSO.out.symm, HB.out, HFL.out⟩
  case round =>
    clear HFL HB
    obtain ⟨k, hk, rfl, rfl, hb, hfl⟩ := hrel
    have HB := Lib.hid hb; clear hb
    have HFL := Lib.hid hfl; clear hfl
    cases k with
    | zero =>
      rw [show ((0 : Nat) : Int) - 1 = -1 by omega, P.out_zero]
      go_wp2_with fail
      go_ret
      exact ⟨_, _, rfl, HFL.out.done, HB.out⟩
    | succ K =>
      rw [show ((K + 1 : Nat) : Int) - 1 = (K : Int) by omega, P.out_succ]
      have hKn : K < n := by omega
      have ch := HC.out.kept HB.out
      have a2' := ch.c2 K hKn
      have hca := ch.ca K hKn
      have hml := ch.ml K hKn
      obtain ⟨ml1, ml2, ml3⟩ := hml
      obtain ⟨M, hM⟩ : ∃ M, P.m K = M := ⟨_, rfl⟩
      rw [hM] at a2' hca ml1 ml3
      unfold maxLen at ml2
      have HPM := Lib.hid hM; clear hM
      have HCA := Lib.hid hca; clear hca ch
      obtain ⟨wo, rfl⟩ : ∃ wo : World, wo = wr := ⟨_, rfl⟩
      have A2 := Lib.hid a2'
      go_wp2_with (at_make; refine wpList_make_own _ rfl _ _ 84 rfl wo.heap.size 40 r0 _ 1 Tryf.underlying84 HR.out HR0.out HR1.out _ _ _ M rfl rfl rfl ?b2 ?b3 (Nat.le_refl _) ?_)
      case b2 => rw [HR2.out]; omega
      case b3 => unfold maxLen; omega
      intro w2 hown hgrow
      have hf : RowO w2 wo.heap.size (.slice (some ⟨wo.heap.size, 0, none⟩) 0 M) [] := ⟨[], hown, rfl, fun i u s hu => by simp at hu⟩
      have hb : Kept [] wo w2 := (Kept.refl _ _).grown hgrow (by simp)
      clear hown hgrow a2'
      obtain ⟨C, hC⟩ : ∃ C, wo.heap.size = C := ⟨_, rfl⟩
      rw [hC] at hf
      have HCC := Lib.hid hC
      have HRF := Lib.hid hf; clear hf
      have HRB := Lib.hid hb; clear hb
      rw [hC]
      clear hC
      go_wp2
      go_loopw [8, 9] (fun v i wr => ∃ j : Nat, j ≤ M ∧ i = .int .i64 j ∧ RowO wr C v ((List.range j).map fun j => codes (l (K, j + 1))) ∧ Kept [] wo wr) (fun _ i _ => M - (intOf i).toNat)
      case atStart => exact ⟨0, Nat.zero_le _, rfl, HRF.out, HRB.out⟩
      case round =>
        clear HRF HRB
        obtain ⟨j, hj, rfl, hf, hb⟩ := hrel
        have KQ := Lib.hid hb; clear hb
        have a2 := KQ.out.cell A2.out (by simp)
        obtain ⟨ts, t1, t2, t3⟩ := hf
        have htl : ts.length = j := by rw [t2]; simp
        obtain ⟨ua, uc, hv, -⟩ := t1.slice
        rw [htl] at hv
        subst hv
        have HTL := Lib.hid htl; clear htl
        have T1 := Lib.hid t1; clear t1
        have T2 := Lib.hid t2; clear t2
        have T3 := Lib.hid t3; clear t3
        have hcw : C ≤ wr.heap.size := by rw [← HCC.out]; exact KQ.out.size
        have HCW := Lib.hid hcw; clear hcw
        by_cases hjl : j < M
        · rw [HCA.out (by omega)] at a2
          have cf := HF.out.kept (HB.out.trans KQ.out)
          have hin : P.In n (K, j + 1) := ⟨hKn, by rw [HPM.out]; exact hjl⟩
          obtain ⟨fa, fn, fc, hu⟩ := (cf.fod (K, j + 1) hin).isSlice
          have e1 := cf.cj K j hKn (by rw [HPM.out]; exact hjl)
          rw [hu] at e1
          have HFJ := Lib.hid (hu ▸ cf.fod (K, j + 1) hin)
          have HIN := Lib.hid hin; clear hin
          have j1 : (0 : Int) ≤ (j : Int) := by omega
          have j2 : (j : Int) < (M : Int) := by omega
          clear cf hu
          go_wp2_with fail
          refine (zzToEls_any _ base _ (l (K, j + 1)) HFJ.out (HF.out.kd (K, j + 1) HIN.out) (HLL.out (K, j + 1) HIN.out)).mono ?_
          rintro e w3 ⟨⟨ea, en, ec⟩, rfl, hsn, k3⟩
          have ht3 : OwnR 40 1 encS w3 C (.slice ua j uc) ts := T1.out.kept0 k3
          have ho : ∀ o', OwnR 40 1 encS (w3.alloc o') C (.slice ua j uc) ts := fun o' => ht3.kept0 ((Kept.refl [] w3).alloc o')
          have HO := Lib.hid ho; clear ho ht3
          have HSN : Hid (Snp w3 C (Trip.val (ea, en, ec)) (codes (l (K, j + 1)))) := Lib.hid (OwnR.low hsn HCW.out)
          have hbl3 : ∀ o', C ≤ (w3.alloc o').heap.size := fun o' => by
            have h4 : (w3.alloc o').heap.size = w3.heap.size + 1 := by simp
            have := k3.size
            have := HCW.out
            omega
          have HBL := Lib.hid hbl3; clear hbl3 hsn
          have K3 := Lib.hid k3; clear k3
          have H3 : Hid (ts.length + 1 ≤ maxLen) := Lib.hid (by rw [HTL.out]; unfold maxLen; omega)
          have H4 : Hid ((ts.length + 1) * 24 ≤ 140737488355328) := Lib.hid (by rw [HTL.out]; omega)
          dsimp only [Trip.val]
          go_wp2_with (first
            | (at_builtin; refine wpList_push (T := 40) (c := 1) (enc := encS) rfl _ _ 84 rfl C r0 _ 24 Tryf.underlying84 HR.out HR0.out HR1.out HR2.out rfl (by decide) encS_len encS_one (.slice ua j uc) ts rfl (HO.out _) w3.heap.size (ea, en, ec) 1 _ rfl (heap_alloc_new w3 _) rfl H3.out H4.out (HBL.out _) ?_)
            | fail)
          intro v' w4 hown4 hk4
          have ka : Kept [] w3 (w3.alloc (.cells #[.slice ea en ec] 40)) := (Kept.refl [] w3).alloc _
          have hown0 := HO.out (.cells #[.slice ea en ec] 40)
          have hrow : RowO w4 C v' (((List.range j).map fun j => codes (l (K, j + 1))) ++ [codes (l (K, j + 1))]) :=
            RowO.snoc (t := (ea, en, ec)) T2.out (fun j' t' d' a b => OwnR.kept0 (T3.out j' t' d' a b) (K3.out.trans ka)) (OwnR.kept0 HSN.out ka) hown0 hown4 hk4
          have hrw : ((List.range j).map fun j => codes (l (K, j + 1))) ++ [codes (l (K, j + 1))] = (List.range (j + 1)).map fun j => codes (l (K, j + 1)) := by rw [List.range_succ, List.map_append]; rfl
          rw [hrw] at hrow
          have hkn : Kept [] wo w4 := ((KQ.out.trans K3.out).trans ka).then hk4 (fun g hg => by
            simp only [Option.mem_toList] at hg
            exact Or.inr (by rw [HCC.out]; exact (OwnR.blk hown0 hg).1))
          have HKN := Lib.hid hkn; clear hkn hk4 hown4 hown0 ka hrw
          have HRW := Lib.hid hrow; clear hrow
          go_wp2_with fail
          exact ⟨⟨j + 1, by omega, by go_num, HRW.out, HKN.out⟩, by simp [intOf]; omega⟩
        · obtain rfl : j = M := by omega
          have hrow : RowO wr C (.slice ua j uc) ((List.range j).map fun j => codes (l (K, j + 1))) := ⟨ts, T1.out, T2.out, T3.out⟩
          have HROW := Lib.hid hrow; clear hrow
          clear T1 T2 T3
          have ch := HC.out.kept (HB.out.trans KQ.out)
          have cf := HF.out.kept (HB.out.trans KQ.out)
          obtain ⟨va, vn, vc, hv⟩ := (cf.fod (K, 0) ⟨hKn, Nat.zero_le _⟩).isSlice
          obtain ⟨po, hpo⟩ := P.out_ptr K
          have a0 := cf.c0 K hKn
          rw [hv] at a0
          have a3 := ch.c3 K hKn
          rw [hpo] at a3
          have A3 := Lib.hid a3
          have HFK := Lib.hid (hv ▸ cf.fod (K, 0) ⟨hKn, Nat.zero_le _⟩)
          have HPO := Lib.hid hpo; clear hpo
          have i1 : (0 : Int) ≤ (K : Int) := by omega
          have i2 : (K : Int) < (n : Int) := by omega
          clear ch cf hv a3
          go_wp2_with fail
          refine (zzToEls_any _ base _ (l (K, 0)) HFK.out (HF.out.kd (K, 0) ⟨hKn, Nat.zero_le _⟩) (HLL.out (K, 0) ⟨hKn, Nat.zero_le _⟩)).mono ?_
          rintro e w3 ⟨⟨ea, en, ec⟩, rfl, hsn, k3⟩
          have kk : Kept [] wo w3 := KQ.out.trans k3
          have hBC : B ≤ C := by
            have h1 := HB.out.size
            have h2 := HBB.out
            have h3 := HCC.out
            omega
          have hfl := HFL.out.kept0 kk
          obtain ⟨⟨x, y, f0, f1⟩, fz⟩ := hfl.free K hKn
          have z0 := fz (K * 2)
          have z1 := fz (K * 2 + 1)
          have hsp : SpO w3 B ((ea, en, ec), (ua, j, uc)) (snapSE P l K) := ⟨OwnR.low hsn (by have := HCW.out; omega), by
            have := ((HROW.out.kept0 k3).low hBC)
            unfold snapSE
            rw [HPM.out]
            exact this⟩
          have hst := hfl.step hKn hsp
          have hk9 : Kept [] w ((w3.setCell ⟨B, K * 2, none⟩ (.slice ea en ec)).setCell ⟨B, K * 2 + 1, none⟩ (.slice ua j uc)) :=
            ((HB.out.trans kk).setCell (p := ⟨B, K * 2, none⟩) (Or.inr (by dsimp only; rw [HBB.out]; exact Nat.le_refl _)) _).setCell (p := ⟨B, K * 2 + 1, none⟩) (Or.inr (by dsimp only; rw [HBB.out]; exact Nat.le_refl _)) _
          have a3 : ((w3.setCell ⟨B, K * 2, none⟩ (.slice ea en ec)).setCell ⟨B, K * 2 + 1, none⟩ (.slice ua j uc)).cell? ⟨P.b K, P.o K + 3, none⟩ = some (.pointer po) := by
            have hlt : P.b K < w.heap.size := World.block_lt_of_cell? w _ (HC.out.c3 K hKn)
            have hne : P.b K ≠ B := by have := HBB.out; omega
            rw [World.cell?_setCell_other _ _ _ _ (fun e => hne (by injection e with e; exact e.symm)), World.cell?_setCell_other _ _ _ _ (fun e => hne (by injection e with e; exact e.symm))]
            exact k3.cell A3.out (by simp)
          have HST := Lib.hid hst; clear hst hfl
          have HK9 := Lib.hid hk9; clear hk9
          unfold Trip.val at HST
          clear fz a2
          dsimp only [Trip.val]
          go_wp2_with fail
          have hpk := HPO.out
          exact ⟨⟨K, by omega, by go_num, hpk.symm, HK9.out, HST.out⟩, by simp [intOf]⟩
end Go.Proofs.YtgpefdmgcigajaaFmt
