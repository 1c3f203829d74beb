/- The contract of n008_124's zzBuildLocal. -/
import Derived.Test.YtepipmjcfnncdaaFmtLocNN
import Derived.Test.YtepipmjcfnncdaaFmtZ4b
import Derived.Test.YtepipmjcfnncdaaFmtPutL
namespace Go.Proofs.YtepipmjcfnncdaaFmt
open Go.ChangeShapes Go.WideShapes Go.ChangeAt Go.RowKit

/-- The first k binds have been laid. -/
structure Bnds (w : World) (B n k : Nat) (ds : List ZRow) (x : Nat → Nat) (v : Nat → Value) (l : Nat → List FE) : Prop where
  cells : ∀ i, i < k → ∀ j, j < 12 → w.cell? ⟨B, i * 12 + j, none⟩ = (bndC (v i) (x i))[j]?
  free : ∀ j, j < n * 12 → ∃ u, w.cell? ⟨B, j, none⟩ = some u
  fr : ∀ o, w.frozen? ⟨B, o, none⟩ = false
  vx : ∀ i, i < k → AtV w (x i)
  fod : ∀ i, i < k → Fod w (B + 1) (v i) (l i)
  bt : ∀ i r, i < k → ds[i]? = some r → BuiltZ r.l r.l r.ds (l i)
  sep : ∀ i, i < k → ∀ g, (v i).ownBlock = some g → g ≠ B ∧ ∀ j, j < k → g ≠ x j
  dj : ∀ i j, i < k → j < k → i ≠ j → ∀ g, (v i).ownBlock = some g → (v j).ownBlock ≠ some g
  xn : ∀ j, j < k → B < x j
  el : B < w.heap.size

/-- One more bind is laid. -/
theorem Bnds.step {w w1 : World} {B n k : Nat} {ds : List ZRow} {x : Nat → Nat} {v : Nat → Value} {l : Nat → List FE} (h : Bnds w B n k ds x v l) (hk : k < n) (o : Obj) (ho : o = .cells #[.string ⟨#[118]⟩, .slice none 0 0, .pointer none, .slice none 0 0, .pointer none, .string ⟨#[]⟩, .int .i64 0, .int .i64 0, .int .i64 0, .int .i64 0] 66)
    (u : Value) (m : List FE) (r : ZRow) (hr : ds[k]? = some r) (hf : Fod w1 (w.alloc o).heap.size u m) (hm : BuiltZ r.l r.l r.ds m) (q : Kept [] (w.alloc o) w1) :
    Bnds (putL w1 B (k * 12) (bndC u w.heap.size)) B n (k + 1) ds (fun i => if i = k then w.heap.size else x i) (fun i => if i = k then u else v i) (fun i => if i = k then m else l i) := by
  have qa : Kept [] w w1 := ((Kept.refl [] w).alloc o).trans q
  have qp := putL_kept w1 B (k * 12) (bndC u w.heap.size)
  have fre : ∀ j, j < n * 12 → ∃ u, w1.cell? ⟨B, j, none⟩ = some u := fun j hj => by
    obtain ⟨u, hu⟩ := h.free j hj
    exact ⟨u, qa.cell hu (by simp)⟩
  have hu12 : (bndC u w.heap.size).length = 12 := rfl
  have new : ∀ g, u.ownBlock = some g → w.heap.size < g ∧ g < w1.heap.size := fun g hg => by
    have := World.ownsRow.lt hf g hg
    simp only [World.size_alloc] at this
    omega
  have old : ∀ i, i < k → ∀ g, (v i).ownBlock = some g → B < g ∧ g < w.heap.size := fun i hi g hg => by
    have := World.ownsRow.lt (h.fod i hi) g hg
    omega
  have hB := h.el
  have nx : AtV w1 w.heap.size := by
    have hb := q.heap (heap_alloc_new w o) (by simp)
    rw [ho] at hb
    exact ⟨cell_of_block hb 1, frozen_of_block hb 1⟩
  exact {
    cells := fun i hi j hj => by
      by_cases hik : i = k
      · subst hik
        simp only [if_true]
        exact putL_at w1 B (i * 12) _ (fun j hj => fre _ (by rw [hu12] at hj; omega)) j (by rw [hu12]; exact hj)
      · simp only [if_neg hik]
        rw [putL_out _ _ _ _ _ (by rw [hu12]; omega), ← h.cells i (by omega) j hj]
        exact World.cell?_of_block (qa.block B hB (by simp))
    free := fun j hj => by
      by_cases hj2 : k * 12 ≤ j ∧ j < k * 12 + 12
      · obtain ⟨i, rfl⟩ : ∃ i, j = k * 12 + i := ⟨j - k * 12, by omega⟩
        rw [putL_at w1 B (k * 12) _ (fun j hj => fre _ (by rw [hu12] at hj; omega)) i (by rw [hu12]; omega)]
        exact ⟨_, List.getElem?_eq_getElem (by rw [hu12]; omega)⟩
      · rw [putL_out _ _ _ _ _ (by rw [hu12]; omega)]
        exact fre j hj
    fr := fun o' => (putL_frozen _ _ _ _ _).trans ((qa.frozen (p := ⟨B, o', none⟩) hB (by simp)).trans (h.fr o'))
    vx := fun i hi => by
      by_cases hik : i = k
      · subst hik
        simp only [if_true]
        exact nx.kept qp (by simp; omega)
      · simp only [if_neg hik]
        exact ((h.vx i (by omega)).kept qa (by simp)).kept qp (by have := h.xn i (by omega); simp; omega)
    fod := fun i hi => by
      by_cases hik : i = k
      · subst hik
        simp only [if_true]
        exact (hf.low (by simp only [World.size_alloc]; omega)).kept qp (fun g hg => by have := new g hg; simp; omega)
      · simp only [if_neg hik]
        exact ((h.fod i (by omega)).kept qa (by simp)).kept qp (fun g hg => by have := old i (by omega) g hg; simp; omega)
    bt := fun i r' hi hr' => by
      by_cases hik : i = k
      · subst hik
        simp only [if_true]
        rw [hr] at hr'
        obtain rfl : r = r' := by simpa using hr'
        exact hm
      · simp only [if_neg hik]
        exact h.bt i r' (by omega) hr'
    sep := fun i hi g hg => by
      by_cases hik : i = k
      · subst hik
        simp only [if_true] at hg
        have := new g hg
        refine ⟨by omega, fun j hj => ?_⟩
        by_cases hjk : j = i
        · subst hjk
          simp only [if_true]; omega
        · simp only [if_neg hjk]
          have := (h.vx j (by omega)).lt
          omega
      · simp only [if_neg hik] at hg
        have := h.sep i (by omega) g hg
        have := old i (by omega) g hg
        refine ⟨by omega, fun j hj => ?_⟩
        by_cases hjk : j = k
        · subst hjk
          simp only [if_true]; omega
        · simp only [if_neg hjk]
          exact (h.sep i (by omega) g hg).2 j (by omega)
    dj := fun i j hi hj hij g hg hg2 => by
      by_cases hik : i = k
      · subst hik
        simp only [if_true] at hg
        rw [if_neg (Ne.symm hij)] at hg2
        have := new g hg
        have := old j (by omega) g hg2
        omega
      · simp only [if_neg hik] at hg
        by_cases hjk : j = k
        · subst hjk
          simp only [if_true] at hg2
          have := new g hg2
          have := old i (by omega) g hg
          omega
        · simp only [if_neg hjk] at hg2
          exact h.dj i j (by omega) (by omega) hij g hg hg2
    xn := fun j hj => by
      by_cases hjk : j = k
      · subst hjk
        simp only [if_true]; omega
      · simp only [if_neg hjk]
        exact h.xn j (by omega)
    el := by rw [putL_size]; exact Nat.lt_of_lt_of_le hB qa.size }

theorem Bnds.done {w : World} {base B n : Nat} {ds : List ZRow} {x : Nat → Nat} {v : Nat → Value} {l : Nat → List FE} (h : Bnds w B n n ds x v l) (hb : base ≤ B) (o1 o2 : Obj)
    (e1 : o1 = .cells #[.string ⟨#[98]⟩, .slice none 0 0, .pointer none, .slice none 0 0, .pointer none, .string ⟨#[]⟩, .int .i64 0, .int .i64 0, .int .i64 0, .int .i64 0] 66)
    (e2 : o2 = .cells #[.slice (some ⟨B, 0, none⟩) n n, varI w.heap.size, .slice none 0 0, .pointer none, .slice none 0 0, .pointer none, .string ⟨#[]⟩, .int .i64 0, .int .i64 0, .int .i64 0, .int .i64 0] 104) :
    LocN ((w.alloc o1).alloc o2) base (w.heap.size + 1) B w.heap.size n x v l := by
  have q : Kept [] w ((w.alloc o1).alloc o2) := ((Kept.refl [] w).alloc o1).alloc o2
  have b1 := ((Kept.refl [] (w.alloc o1)).alloc o2).heap (heap_alloc_new w o1) (by simp)
  have b2 := heap_alloc_new (w.alloc o1) o2
  rw [show (w.alloc o1).heap.size = w.heap.size + 1 by simp] at b2
  have hB := h.el
  subst e1 e2
  exact {
    c0 := cell_of_block b2 0
    c1 := cell_of_block b2 1
    vb := ⟨cell_of_block b1 1, frozen_of_block b1 1⟩
    cells := fun i hi j hj => by
      rw [← h.cells i hi j hj]
      exact World.cell?_of_block (q.block B hB (by simp))
    vx := fun i hi => (h.vx i hi).kept q (by simp)
    fr := fun o => (q.frozen (p := ⟨B, o, none⟩) hB (by simp)).trans (h.fr o)
    fod := fun i hi => ((h.fod i hi).low (by omega)).kept q (by simp)
    sep := fun i hi g hg => by
      have := World.ownsRow.lt (h.fod i hi) g hg
      have h2 := h.sep i hi g hg
      exact ⟨by omega, h2.1, by omega, h2.2⟩
    dj := h.dj
    ne := by omega
    xe := by omega
    xn := fun j hj => by have := h.xn j hj; omega
    be := hb
    el := Nat.lt_of_lt_of_le hB q.size }

theorem Tryf.infoLB : (Tryf.prog.info? 100).map (fun i => (i.zero, i.size, i.bytes)) = some (some (.agg #[.slice none 0 0, .nilIface, .slice none 0 0, .string ⟨#[]⟩, .slice none 0 0, .pointer none, .pointer none, .string ⟨#[]⟩, .int .i64 0, .int .i64 0, .int .i64 0, .int .i64 0]), 12, 168) := by kernel_rfl

set_option maxRecDepth 100000 in
set_option maxHeartbeats 8000000 in
theorem zzBuildLocal_any (w : World) (a : Option Addr) (len cap : Nat) (ds : List ZRow) (h : IsZZ w a len cap ds) (hg : GoodZZ len ds) (hlen : len ≤ 1048576) (hll : ∀ i r, i < len → ds[i]? = some r → r.l ≤ 1048576) :
    Calls Tryf.prog 31 #[.slice a len cap] w fun e w' => ∃ nb eb xb x v l, e = .returned (.pointer (some ⟨nb, 0, none⟩)) ∧ LocN w' w.heap.size nb eb xb len x v l ∧ (∀ i r, i < len → ds[i]? = some r → BuiltZ r.l r.l r.ds (l i)) ∧ Kept [] w w' := by
  have hle := h.le
  have htop := h.top
  unfold maxLen at htop
  have H := Lib.hid h; clear h
  have HG := Lib.hid hg; clear hg
  have HLL := Lib.hid hll; clear hll
  obtain ⟨i0, hi, hz0, hz1, hz2⟩ := info_parts Tryf.infoLB
  go_enter Tryf.func31, Tryf.ntmps31
  go_wp2_with (at_make; refine wpList_make_full _ rfl _ _ 102 rfl w.heap.size 100 i0 _ 12 Tryf.underlying102 hi hz0 hz1 _ _ _ _ len rfl rfl rfl rfl ?b2 ?b3 (Nat.le_refl _) ?_)
  case b2 => rw [hz2]; omega
  case b3 => unfold maxLen; omega
  intro w1 hown hgrow
  have hb : Kept [] w w1 := (Kept.refl _ _).grown hgrow (by simp)
  obtain ⟨B, hB⟩ : ∃ B, w.heap.size = B := ⟨_, rfl⟩
  rw [hB] at hown ⊢
  have hf : Bnds w1 B len 0 ds (fun _ => 0) (fun _ => .slice none 0 0) (fun _ => []) := {
    cells := fun i hi => by omega
    free := fun j hj => by
      have hl := hown.1
      have := World.ownsRow.cells hown (g := B) rfl j _ (List.getElem?_eq_getElem (by rw [hl]; exact hj))
      rw [add_off, Nat.zero_add] at this
      exact ⟨_, this⟩
    fr := fun o => World.ownsRow.frozenAt hown o
    vx := fun i hi => by omega
    fod := fun i hi => by omega
    bt := fun i r hi => by omega
    sep := fun i hi => by omega
    dj := fun i j hi => by omega
    xn := fun j hj => by omega
    el := (World.ownsRow.lt hown B rfl).2 }
  clear hown hgrow hi hz0 hz1 hz2
  have HBB := Lib.hid hB; clear hB
  have HF := Lib.hid hf; clear hf
  have HB := Lib.hid hb; clear hb
  go_wp2
  go_loopw [4] (fun i wr => ∃ k : Nat, k ≤ len ∧ i = .int .i64 k ∧ (∃ x v l, Bnds wr B len k ds x v l) ∧ Kept [] w wr) (fun i _ => len - (intOf i).toNat)
  case atStart => exact ⟨0, Nat.zero_le _, rfl, ⟨_, _, _, HF.out⟩, HB.out⟩
  case round =>
    clear HF HB
    obtain ⟨k, hk, rfl, ⟨x, v, l, hf⟩, hb⟩ := hrel
    have HB := Lib.hid hb; clear hb
    by_cases hlt : k < len
    · obtain ⟨b, o, r, hr, rfl, hbl, c0, hzr⟩ := (H.out.kept HB.out (by simp)).row k hlt
      have e0 := fun o => ((Kept.refl [] wr).alloc o).cell c0 (by simp)
      have HF := Lib.hid hf; clear hf
      have HZR := Lib.hid hzr; clear hzr
      have HR := Lib.hid hr; clear hr
      clear c0
      go_wp2_with fail
      refine (zzToFodder_any _ r.a r.l r.c r.ds (HZR.out.kept ((Kept.refl [] wr).alloc _) (by simp)) (HG.out k r hlt HR.out) (HLL.out k r hlt HR.out)).mono ?_
      rintro e w2 ⟨u, m, rfl, hu, hm, k2⟩
      obtain ⟨ua, uc, hue, -⟩ := hu.slice
      have hst := HF.out.step hlt _ rfl u m r HR.out hu hm k2
      have qq := ((Kept.refl [] wr).alloc _).trans k2
      have fre : ∀ j, j < 12 → ∃ u, w2.cell? ⟨B, k * 12 + j, none⟩ = some u := fun j hj => by
        obtain ⟨u, hu⟩ := HF.out.free (k * 12 + j) (by omega)
        exact ⟨u, qq.cell hu (by simp)⟩
      have ffr : ∀ j, w2.frozen? ⟨B, j, none⟩ = false := fun j => (qq.frozen (p := ⟨B, j, none⟩) HF.out.el (by simp)).trans (HF.out.fr j)
      obtain ⟨s0, q0⟩ := fre 0 (by omega)
      obtain ⟨s1, q1⟩ := fre 1 (by omega)
      obtain ⟨s2, q2⟩ := fre 2 (by omega)
      obtain ⟨s3, q3⟩ := fre 3 (by omega)
      obtain ⟨s4, q4⟩ := fre 4 (by omega)
      obtain ⟨s5, q5⟩ := fre 5 (by omega)
      obtain ⟨s6, q6⟩ := fre 6 (by omega)
      obtain ⟨s7, q7⟩ := fre 7 (by omega)
      obtain ⟨s8, q8⟩ := fre 8 (by omega)
      obtain ⟨s9, q9⟩ := fre 9 (by omega)
      obtain ⟨s10, q10⟩ := fre 10 (by omega)
      obtain ⟨s11, q11⟩ := fre 11 (by omega)
      rw [Nat.add_zero] at q0
      have f0 := ffr (k * 12)
      have f1 := ffr (k * 12 + 1)
      have f2 := ffr (k * 12 + 2)
      have f3 := ffr (k * 12 + 3)
      have f4 := ffr (k * 12 + 4)
      have f5 := ffr (k * 12 + 5)
      have f6 := ffr (k * 12 + 6)
      have f7 := ffr (k * 12 + 7)
      have f8 := ffr (k * 12 + 8)
      have f9 := ffr (k * 12 + 9)
      have f10 := ffr (k * 12 + 10)
      have f11 := ffr (k * 12 + 11)
      have hkf : Kept [] w (putL w2 B (k * 12) (bndC u wr.heap.size)) := (HB.out.trans qq).then (putL_kept _ _ _ _) (by intro y hy; simp at hy; subst hy; exact Or.inr (by rw [HBB.out]; exact Nat.le_refl _))
      simp only [putL, bndC, Nat.add_assoc, Nat.reduceAdd] at hst hkf
      subst hue
      have HST := Lib.hid hst; clear hst
      have HKF := Lib.hid hkf; clear hkf
      clear fre ffr qq e0 hu k2
      go_wp2_with fail
      exact ⟨⟨k + 1, by omega, by go_num, ⟨_, _, _, HST.out⟩, HKF.out⟩, by simp [intOf]; omega⟩
    · obtain rfl : k = len := by omega
      have HF := Lib.hid hf; clear hf
      go_wp2_with fail
      go_ret
      have hd := HF.out.done (base := w.heap.size) (by rw [HBB.out]; exact Nat.le_refl _) _ _ rfl rfl
      exact ⟨_, _, _, _, _, _, rfl, hd, HF.out.bt, (HB.out.alloc _).alloc _⟩
end Go.Proofs.YtepipmjcfnncdaaFmt
