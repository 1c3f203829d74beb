/- The contract of n008_124's zzBuildArray. -/
import Derived.Test.YtepipmjcfnncdaaFmtArBN
namespace Go.Proofs.YtepipmjcfnncdaaFmt
open Go.ChangeShapes Go.WideShapes Go.ChangeAt Go.RowKit

/-- The array is built, its list of variables handed out beside it. -/
def ArrBuilt (w : World) (len : Nat) (e : Ending) (w' : World) : Prop :=
  ∃ nb eb vb x v l, e = .returned (.tuple #[.pointer (some ⟨nb, 0, none⟩), .slice (some ⟨vb, 0, none⟩) len len]) ∧
    (∀ w'', Kept [] w' w'' → ∀ pb, w'.heap.size ≤ pb → pb < w''.heap.size → IsPass w'' pb → ArrW w'' w.heap.size nb eb len pb vb x v l) ∧
    (∀ i, i < len + 1 → Kinds (l i) ∧ (l i).length ≤ 1048576) ∧ Kept [] w w'

set_option maxRecDepth 100000 in
set_option maxHeartbeats 8000000 in
theorem zzBuildArray_any (w : World) (a : Option Addr) (len cap : Nat) (ds : List ZRow) (a2 : Option Addr) (len2 cap2 : Nat) (d2 : List ZE) (h : IsZZ w a len cap ds) (h2 : IsZ w a2 len2 cap2 d2) (hg : GoodZZ len ds) (hg2 : GoodZ len2 d2) (hlen : len ≤ 1048576) (hlen2 : len2 ≤ 1048576)
    (hll : ∀ i r, i < len → ds[i]? = some r → r.l ≤ 1048576) :
    Calls Tryf.prog 38 #[.slice a len cap, .slice a2 len2 cap2] w (ArrBuilt w len) := by
  have hle := h.le
  have htop := h.top
  unfold maxLen at htop
  have H := Lib.hid h; clear h
  have H2 := Lib.hid h2; clear h2
  have HG := Lib.hid hg; clear hg
  have HG2 := Lib.hid hg2; clear hg2
  have HLL := Lib.hid hll; clear hll
  obtain ⟨p0, hp, hp0, hp1, hp2⟩ := info_parts Tryf.infoPV
  obtain ⟨i0, hi, hz0, hz1, hz2⟩ := info_parts Tryf.infoCS
  have HP := Lib.hid hp; clear hp
  have HP0 := Lib.hid hp0; clear hp0
  have HP1 := Lib.hid hp1; clear hp1
  have HP2 := Lib.hid hp2; clear hp2
  have HI := Lib.hid hi; clear hi
  have HI0 := Lib.hid hz0; clear hz0
  have HI1 := Lib.hid hz1; clear hz1
  have HI2 := Lib.hid hz2; clear hz2
  go_enter Tryf.func38, Tryf.ntmps38
  go_wp2_with (at_make; refine wpList_make_full _ rfl _ _ 110 rfl w.heap.size 58 p0 _ 1 Tryf.underlying110 HP.out HP0.out HP1.out _ _ _ _ len rfl rfl rfl rfl ?b2 ?b3 (Nat.le_refl _) ?_)
  case b2 => rw [HP2.out]; omega
  case b3 => unfold maxLen; omega
  intro w1 hown hgrow
  have hb : Kept [] w w1 := (Kept.refl _ _).grown hgrow (by simp)
  obtain ⟨V, hV⟩ : ∃ V, w.heap.size = V := ⟨_, rfl⟩
  rw [hV] at hown ⊢
  have HV := Lib.hid hV; clear hV
  have HO := Lib.hid hown; clear hown hgrow
  have HB := Lib.hid hb; clear hb
  go_wp2_with (at_make; refine wpList_make_full _ rfl _ _ 114 rfl w1.heap.size 181 i0 _ 2 Tryf.underlying114 HI.out HI0.out HI1.out _ _ _ _ len rfl rfl rfl rfl ?c2 ?c3 (Nat.le_refl _) ?_)
  case c2 => rw [HI2.out]; omega
  case c3 => unfold maxLen; omega
  intro w2 hown2 hgrow2
  have hb2 : Kept [] w1 w2 := (Kept.refl _ _).grown hgrow2 (by simp)
  obtain ⟨B, hB⟩ : ∃ B, w1.heap.size = B := ⟨_, rfl⟩
  rw [hB] at hown2 ⊢
  have hVB : V < B := by rw [← hB]; exact (World.ownsRow.lt HO.out V rfl).2
  have hf : ArrP w2 V B len 0 ds (fun _ => 0) (fun _ => .slice none 0 0) (fun _ => []) := {
    vs := fun i hi => by omega
    es := fun i hi => by omega
    vf := fun j hj => by
      have hl := HO.out.1
      have := World.ownsRow.cells HO.out (g := V) rfl j _ (List.getElem?_eq_getElem (by rw [hl]; omega))
      rw [add_off, Nat.zero_add] at this
      exact ⟨_, hb2.cell this (by simp)⟩
    bf := fun j hj => by
      have hl := hown2.1
      have := World.ownsRow.cells hown2 (g := B) rfl j _ (List.getElem?_eq_getElem (by rw [hl]; omega))
      rw [add_off, Nat.zero_add] at this
      exact ⟨_, this⟩
    vz := fun o => (hb2.frozen (p := ⟨V, o, none⟩) (by rw [hB]; exact hVB) (by simp)).trans (World.ownsRow.frozenAt HO.out o)
    bz := fun o => World.ownsRow.frozenAt hown2 o
    xc := fun i hi => by omega
    fod := fun i hi => by omega
    bt := fun i r hi => by omega
    vb := hVB
    bx := fun i hi => by omega
    lo := fun i hi => by omega
    inc := fun i j hij hj => by omega
    el := (World.ownsRow.lt hown2 B rfl).2 }
  have HF := Lib.hid hf; clear hf
  have HB2 := Lib.hid (HB.out.trans hb2); clear hb2 hown2 hgrow2 HO
  have HBB := Lib.hid hB; clear hB
  go_wp2
  go_loopw [8] (fun i wr => ∃ k : Nat, k ≤ len ∧ i = .int .i64 k ∧ (∃ x v l, ArrP wr V B len k ds x v l) ∧ Kept [] w wr) (fun i _ => len - (intOf i).toNat)
  case atStart => exact ⟨0, Nat.zero_le _, rfl, ⟨_, _, _, HF.out⟩, HB2.out⟩
  case round =>
    clear HF HB2
    obtain ⟨k, hk, rfl, ⟨x, v, l, hf⟩, hb⟩ := hrel
    have HB := Lib.hid hb; clear hb
    by_cases hlt : k < len
    · obtain ⟨b, o, r, hr, rfl, hbl, c0, hzr⟩ := (H.out.kept HB.out (by simp)).row k hlt
      have e0 := fun o => ((Kept.refl [] wr).alloc o).cell c0 (by simp)
      have HF := Lib.hid hf; clear hf
      have HZR := Lib.hid hzr; clear hzr
      have HR := Lib.hid hr; clear hr
      clear c0
      go_wp2_with fail
      refine (zzToFodder_any _ r.a r.l r.c r.ds (HZR.out.kept ((Kept.refl [] wr).alloc _) (by simp)) (HG.out k r hlt HR.out) (HLL.out k r hlt HR.out)).mono ?_
      rintro e w2 ⟨u, m, rfl, hu, hm, k2⟩
      obtain ⟨ua, uc, hue, -⟩ := hu.slice
      obtain ⟨hst, hkp⟩ := HF.out.step hlt _ u m r HR.out hu hm k2
      have qq := ((Kept.refl [] wr).alloc _).trans k2
      have hnew := k2.heap (heap_alloc_new wr _) (by simp)
      have x0 := cell_of_block hnew 1
      have xf := frozen_of_block hnew 1
      obtain ⟨s0, q0⟩ := HF.out.vf k hlt
      have q0 := qq.cell q0 (by simp)
      have f0 := (qq.frozen (p := ⟨V, k, none⟩) (World.block_lt_of_cell? wr _ (HF.out.vf k hlt).choose_spec) (by simp)).trans (HF.out.vz k)
      obtain ⟨s1, q1⟩ := HF.out.bf (k * 2) (by omega)
      have q1 := qq.cell q1 (by simp)
      obtain ⟨s2, q2⟩ := HF.out.bf (k * 2 + 1) (by omega)
      have q2 := qq.cell q2 (by simp)
      have f1 := (qq.frozen (p := ⟨B, k * 2, none⟩) HF.out.el (by simp)).trans (HF.out.bz _)
      have f2 := (qq.frozen (p := ⟨B, k * 2 + 1, none⟩) HF.out.el (by simp)).trans (HF.out.bz _)
      have hVB := HF.out.vb
      have hel := HF.out.el
      have n1 : V ≠ wr.heap.size := by omega
      have n2 : B ≠ wr.heap.size := by omega
      have n3 : B ≠ V := by omega
      have n4 : wr.heap.size ≠ V := by omega
      have n5 : wr.heap.size ≠ B := by omega
      have n6 : V ≠ B := by omega
      have hkf : Kept [] w (arLaid w2 V B k wr.heap.size u) := (HB.out.trans qq).then hkp (by
        intro y hy
        simp at hy
        have h1 := HB.out.size
        have h2 := HV.out
        rcases hy with e | e | e
        · subst e; exact Or.inr h1
        · subst e; exact Or.inr (by omega)
        · subst e; exact Or.inr (by omega))
      unfold arLaid at hst hkf
      subst hue
      have HST := Lib.hid hst; clear hst hkp
      have HKF := Lib.hid hkf; clear hkf
      simp only [List.getElem?_toArray, List.getElem?_cons_zero, List.getElem?_cons_succ] at x0
      clear qq e0 hu k2 hnew
      go_wp2_with fail
      exact ⟨⟨k + 1, by omega, by go_num, ⟨_, _, _, HST.out⟩, HKF.out⟩, by simp [intOf]; omega⟩
    · obtain rfl : k = len := by omega
      have HF := Lib.hid hf; clear hf
      go_wp2_with fail
      refine (zzToFodder_any _ _ _ _ d2 (H2.out.kept HB.out (by simp)) HG2.out hlen2).mono ?_
      rintro e w2 ⟨u, m, rfl, hu, hm, k2⟩
      obtain ⟨ua, uc, hue, -⟩ := hu.slice
      subst hue
      have HU := Lib.hid hu; clear hu
      have HM := Lib.hid hm; clear hm
      have K2 := Lib.hid k2; clear k2
      go_wp2_with fail
      go_ret2
      refine ⟨_, _, _, _, _, _, rfl, fun w'' q'' pb h1 h2 h3 => HF.out.done (base := w.heap.size) (by rw [HV.out]; exact Nat.le_refl _) _ m HU.out K2.out _ rfl w'' q'' pb h1 h2 h3, fun i hi => ?_, (HB.out.trans K2.out).alloc _⟩
      by_cases hin : i = k
      · subst hin
        rw [put_same]
        exact ⟨HM.out.kinds, by rw [HM.out.len]; exact hlen2⟩
      · rw [put_other _ _ _ hin]
        obtain ⟨b, o, r, hr, -⟩ := H.out.row i (by omega)
        have hb := HF.out.bt i r (by omega) hr
        exact ⟨hb.kinds, by rw [hb.len]; exact HLL.out i r (by omega) hr⟩
end Go.Proofs.YtepipmjcfnncdaaFmt
