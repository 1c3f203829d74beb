/- The contract of n008_124's zzBuildArray. -/
import Derived.Test.YtepipmjcfnncdaaFmtArNN
import Derived.Test.YtepipmjcfnncdaaFmtZ4b
import Derived.Test.YtepipmjcfnncdaaFmtPutL
namespace Go.Proofs.YtepipmjcfnncdaaFmt
open Go.ChangeShapes Go.WideShapes Go.ChangeAt Go.RowKit

/-- The first k elements have been laid. -/
structure ArrP (w : World) (V B n k : Nat) (ds : List ZRow) (x : Nat → Nat) (v : Nat → Value) (l : Nat → List FE) : Prop where
  vs : ∀ i, i < k → w.cell? ⟨V, i, none⟩ = some (.pointer (some ⟨x i, 0, none⟩))
  es : ∀ i, i < k → w.cell? ⟨B, i * 2, none⟩ = some (varI (x i)) ∧ w.cell? ⟨B, i * 2 + 1, none⟩ = some (.slice none 0 0)
  vf : ∀ j, j < n → ∃ u, w.cell? ⟨V, j, none⟩ = some u
  bf : ∀ j, j < n * 2 → ∃ u, w.cell? ⟨B, j, none⟩ = some u
  vz : ∀ o, w.frozen? ⟨V, o, none⟩ = false
  bz : ∀ o, w.frozen? ⟨B, o, none⟩ = false
  xc : ∀ i, i < k → w.cell? ⟨x i, 1, none⟩ = some (v i) ∧ w.frozen? ⟨x i, 1, none⟩ = false
  fod : ∀ i, i < k → Fod w (B + 1) (v i) (l i)
  bt : ∀ i r, i < k → ds[i]? = some r → BuiltZ r.l r.l r.ds (l i)
  vb : V < B
  bx : ∀ i, i < k → B < x i
  lo : ∀ i, i < k → ∀ g, (v i).ownBlock = some g → x i < g
  inc : ∀ i j, i < j → j < k → x i < x j ∧ ∀ g, (v i).ownBlock = some g → g < x j
  el : B < w.heap.size

abbrev varOb (t : ByteArray) (u : Value) : Obj := .cells #[.string t, u, .pointer none, .slice none 0 0, .pointer none, .string ⟨#[]⟩, .int .i64 0, .int .i64 0, .int .i64 0, .int .i64 0] 66

/-- The world in which one more element is laid. -/
abbrev arLaid (w1 : World) (V B k X : Nat) (u : Value) : World :=
  (((w1.setCell ⟨X, 1, none⟩ u).setCell ⟨V, k, none⟩ (.pointer (some ⟨X, 0, none⟩))).setCell ⟨B, k * 2, none⟩ (varI X)).setCell ⟨B, k * 2 + 1, none⟩ (.slice none 0 0)

theorem ArrP.step {w w1 : World} {V B n k : Nat} {ds : List ZRow} {x : Nat → Nat} {v : Nat → Value} {l : Nat → List FE} (h : ArrP w V B n k ds x v l) (hk : k < n) (t : ByteArray)
    (u : Value) (m : List FE) (r : ZRow) (hr : ds[k]? = some r) (hf : Fod w1 (w.alloc (varOb t (.slice none 0 0))).heap.size u m) (hm : BuiltZ r.l r.l r.ds m) (q : Kept [] (w.alloc (varOb t (.slice none 0 0))) w1) :
    ArrP (arLaid w1 V B k w.heap.size u) V B n (k + 1) ds (put x k w.heap.size) (put v k u) (put l k m) ∧ Kept [w.heap.size, V, B] w1 (arLaid w1 V B k w.heap.size u) := by
  obtain ⟨X, hX⟩ : ∃ X, w.heap.size = X := ⟨_, rfl⟩
  have qa : Kept [] w w1 := ((Kept.refl [] w).alloc _).trans q
  have hnew := q.heap (heap_alloc_new w (varOb t (.slice none 0 0))) (by simp)
  have new : ∀ g, u.ownBlock = some g → X < g ∧ g < w1.heap.size := fun g hg => by
    have := World.ownsRow.lt hf g hg
    simp only [World.size_alloc] at this
    omega
  rw [hX] at hnew ⊢
  have old : ∀ i, i < k → ∀ g, (v i).ownBlock = some g → x i < g ∧ g < X := fun i hi g hg => ⟨h.lo i hi g hg, by have := World.ownsRow.lt (h.fod i hi) g hg; omega⟩
  have oldx : ∀ i, i < k → x i < X := fun i hi => by have := World.block_lt_of_cell? w _ (h.xc i hi).1; dsimp only at this; omega
  have hB := h.el
  have hVB := h.vb
  have kp : Kept [X, V, B] w1 (arLaid w1 V B k X u) := ((((Kept.refl [X, V, B] w1).setCell (p := ⟨X, 1, none⟩) (Or.inl (by simp)) _).setCell (p := ⟨V, k, none⟩) (Or.inl (by simp)) _).setCell (p := ⟨B, k * 2, none⟩) (Or.inl (by simp)) _).setCell (p := ⟨B, k * 2 + 1, none⟩) (Or.inl (by simp)) _
  have far : ∀ (W : World) (p r : Addr) (y : Value), r ≠ p → (W.setCell p y).cell? r = W.cell? r := fun W p r y hne => World.cell?_setCell_other _ _ _ _ (Ne.symm hne)
  have oth : ∀ b o, (b = X → o ≠ 1) → (b = V → o ≠ k) → (b = B → o ≠ k * 2 ∧ o ≠ k * 2 + 1) → (arLaid w1 V B k X u).cell? ⟨b, o, none⟩ = w1.cell? ⟨b, o, none⟩ := fun b o n1 n2 n3 => by
    unfold arLaid
    rw [far _ _ _ _ (fun e => by injection e with e1 e2; exact (n3 e1).2 e2), far _ _ _ _ (fun e => by injection e with e1 e2; exact (n3 e1).1 e2), far _ _ _ _ (fun e => by injection e with e1 e2; exact n2 e1 e2),
      far _ _ _ _ (fun e => by injection e with e1 e2; exact n1 e1 e2)]
  have frz : ∀ b o, (arLaid w1 V B k X u).frozen? ⟨b, o, none⟩ = w1.frozen? ⟨b, o, none⟩ := fun b o => by
    unfold arLaid
    rw [World.frozen?_setCell, World.frozen?_setCell, World.frozen?_setCell, World.frozen?_setCell]
  have cx : (arLaid w1 V B k X u).cell? ⟨X, 1, none⟩ = some u := by
    unfold arLaid
    rw [far _ _ _ _ (fun e => by injection e with e1 e2; omega), far _ _ _ _ (fun e => by injection e with e1 e2; omega), far _ _ _ _ (fun e => by injection e with e1 e2; omega)]
    exact World.cell?_setCell_same _ _ _ (cell_of_block hnew 1)
  obtain ⟨uv, huv⟩ := h.vf k hk
  have huv1 := qa.cell huv (by simp)
  obtain ⟨u0, hu0⟩ := h.bf (k * 2) (by omega)
  have hu01 := qa.cell hu0 (by simp)
  obtain ⟨u1, hu1⟩ := h.bf (k * 2 + 1) (by omega)
  have hu11 := qa.cell hu1 (by simp)
  have cv : (arLaid w1 V B k X u).cell? ⟨V, k, none⟩ = some (.pointer (some ⟨X, 0, none⟩)) := by
    unfold arLaid
    rw [far _ _ _ _ (fun e => by injection e with e1 e2; omega), far _ _ _ _ (fun e => by injection e with e1 e2; omega)]
    exact World.cell?_setCell_same _ _ _ ((far _ _ _ _ (fun e => by injection e with e1 e2; omega)).trans huv1)
  have c0 : (arLaid w1 V B k X u).cell? ⟨B, k * 2, none⟩ = some (varI X) := by
    unfold arLaid
    rw [far _ _ _ _ (fun e => by injection e with e1 e2; omega)]
    exact World.cell?_setCell_same _ _ _ ((far _ _ _ _ (fun e => by injection e with e1 e2; omega)).trans ((far _ _ _ _ (fun e => by injection e with e1 e2; omega)).trans hu01))
  have c1 : (arLaid w1 V B k X u).cell? ⟨B, k * 2 + 1, none⟩ = some (.slice none 0 0) := by
    unfold arLaid
    exact World.cell?_setCell_same _ _ _ ((far _ _ _ _ (fun e => by injection e with e1 e2; omega)).trans ((far _ _ _ _ (fun e => by injection e with e1 e2; omega)).trans ((far _ _ _ _ (fun e => by injection e with e1 e2; omega)).trans hu11)))
  refine ⟨?_, kp⟩
  exact {
    vs := fun i hi => by
      by_cases hik : i = k
      · subst hik; rw [put_same]; exact cv
      · rw [put_other _ _ _ hik, oth V i (by omega) (by omega) (by omega)]
        exact qa.cell (h.vs i (by omega)) (by simp)
    es := fun i hi => by
      by_cases hik : i = k
      · subst hik; rw [put_same]; exact ⟨c0, c1⟩
      · rw [put_other _ _ _ hik, oth B (i * 2) (by omega) (by omega) (by omega), oth B (i * 2 + 1) (by omega) (by omega) (by omega)]
        exact ⟨qa.cell (h.es i (by omega)).1 (by simp), qa.cell (h.es i (by omega)).2 (by simp)⟩
    vf := fun j hj => by
      by_cases hjk : j = k
      · subst hjk; exact ⟨_, cv⟩
      · obtain ⟨y, hy⟩ := h.vf j hj
        rw [oth V j (by omega) (by omega) (by omega)]
        exact ⟨y, qa.cell hy (by simp)⟩
    bf := fun j hj => by
      by_cases hj0 : j = k * 2
      · subst hj0; exact ⟨_, c0⟩
      · by_cases hj1 : j = k * 2 + 1
        · subst hj1; exact ⟨_, c1⟩
        · obtain ⟨y, hy⟩ := h.bf j hj
          rw [oth B j (by omega) (by omega) (by omega)]
          exact ⟨y, qa.cell hy (by simp)⟩
    vz := fun o => (frz V o).trans ((qa.frozen (p := ⟨V, o, none⟩) (by dsimp only; omega) (by simp)).trans (h.vz o))
    bz := fun o => (frz B o).trans ((qa.frozen (p := ⟨B, o, none⟩) hB (by simp)).trans (h.bz o))
    xc := fun i hi => by
      by_cases hik : i = k
      · subst hik
        rw [put_same, put_same]
        exact ⟨cx, (frz X 1).trans (frozen_of_block hnew 1)⟩
      · rw [put_other _ _ _ hik, put_other _ _ _ hik]
        have h1 := h.bx i (by omega)
        have h2 := oldx i (by omega)
        rw [oth (x i) 1 (by omega) (by omega) (by omega)]
        exact ⟨qa.cell (h.xc i (by omega)).1 (by simp), (frz _ _).trans ((qa.frozen (p := ⟨x i, 1, none⟩) (by dsimp only; omega) (by simp)).trans (h.xc i (by omega)).2)⟩
    fod := fun i hi => by
      by_cases hik : i = k
      · subst hik
        rw [put_same, put_same]
        exact (hf.low (by simp only [World.size_alloc]; omega)).kept kp (fun g hg => by have := new g hg; simp; omega)
      · rw [put_other _ _ _ hik, put_other _ _ _ hik]
        exact ((h.fod i (by omega)).kept qa (by simp)).kept kp (fun g hg => by have := old i (by omega) g hg; have := h.bx i (by omega); simp; omega)
    bt := fun i r' hi hr' => by
      by_cases hik : i = k
      · subst hik
        rw [put_same]
        rw [hr] at hr'
        obtain rfl : r = r' := by simpa using hr'
        exact hm
      · rw [put_other _ _ _ hik]
        exact h.bt i r' (by omega) hr'
    vb := hVB
    bx := fun i hi => by
      by_cases hik : i = k
      · subst hik; rw [put_same]; omega
      · rw [put_other _ _ _ hik]; exact h.bx i (by omega)
    lo := fun i hi g hg => by
      by_cases hik : i = k
      · subst hik
        rw [put_same] at hg ⊢
        exact (new g hg).1
      · rw [put_other _ _ _ hik] at hg ⊢
        exact h.lo i (by omega) g hg
    inc := fun i j hij hj => by
      rw [put_other x _ _ (show i ≠ k by omega), put_other v _ _ (show i ≠ k by omega)]
      by_cases hjk : j = k
      · subst hjk
        rw [put_same]
        exact ⟨oldx i (by omega), fun g hg => (old i (by omega) g hg).2⟩
      · rw [put_other _ _ _ hjk]
        exact h.inc i j hij (by omega)
    el := Nat.lt_of_lt_of_le hB (Nat.le_trans qa.size kp.size) }

/-- The array as built: it awaits its pass. -/
theorem ArrP.done {w w1 : World} {base V B n : Nat} {ds : List ZRow} {x : Nat → Nat} {v : Nat → Value} {l : Nat → List FE} (h : ArrP w V B n n ds x v l) (hb : base ≤ V) (u : Value) (m : List FE) (hu : Fod w1 w.heap.size u m) (q : Kept [] w w1) (o : Obj)
    (ho : o = .cells #[.slice (some ⟨B, 0, none⟩) n n, u, .slice none 0 0, .pointer none, .slice none 0 0, .pointer none, .string ⟨#[]⟩, .int .i64 0, .int .i64 0, .int .i64 0, .int .i64 0, .bool false] 116)
    (w' : World) (q' : Kept [] (w1.alloc o) w') (pb : Nat) (hp : (w1.alloc o).heap.size ≤ pb) (hp' : pb < w'.heap.size) (hpass : IsPass w' pb) :
    ArrW w' base w1.heap.size B n pb V x (put v n u) (put l n m) := by
  have qa : Kept [] w w' := (q.alloc o).trans q'
  have hn := q'.heap (heap_alloc_new w1 o) (by simp)
  have qs := q.size
  have hB := h.el
  have hVB := h.vb
  simp only [World.size_alloc] at hp
  have old : ∀ i, i < n → ∀ g, (v i).ownBlock = some g → x i < g ∧ g < w.heap.size := fun i hi g hg => ⟨h.lo i hi g hg, by have := World.ownsRow.lt (h.fod i hi) g hg; omega⟩
  have oldx : ∀ i, i < n → B < x i ∧ x i < w.heap.size := fun i hi => ⟨h.bx i hi, by have := World.block_lt_of_cell? w _ (h.xc i hi).1; exact this⟩
  have new : ∀ g, u.ownBlock = some g → w.heap.size ≤ g ∧ g < w1.heap.size := fun g hg => World.ownsRow.lt hu g hg
  have xinj : ∀ i j, i < n → j < n → i ≠ j → x i ≠ x j := fun i j hi hj hij => by
    rcases Nat.lt_or_gt_of_ne hij with e | e
    · have := (h.inc i j e hj).1; omega
    · have := (h.inc j i e hi).1; omega
  have ox : ∀ i j, i < n → j < n → ∀ g, (v i).ownBlock = some g → g ≠ x j := fun i j hi hj g hg => by
    rcases Nat.lt_trichotomy i j with e | e | e
    · have := (h.inc i j e hj).2 g hg; omega
    · subst e; have := h.lo i hi g hg; omega
    · have := h.lo i hi g hg; have := (h.inc j i e hi).1; omega
  subst ho
  exact {
    fam := {
      c := fun i hi => by
        by_cases hin : i = n
        · subst hin
          rw [pA_last, put_same]
          exact cell_of_block hn 1
        · rw [pA_lt (by omega), put_other _ _ _ hin]
          exact qa.cell (h.xc i (by omega)).1 (by simp)
      f := fun i hi => by
        by_cases hin : i = n
        · subst hin
          rw [pA_last]
          exact frozen_of_block hn 1
        · rw [pA_lt (by omega)]
          exact (qa.frozen (p := ⟨x i, 1, none⟩) (oldx i (by omega)).2 (by simp)).trans (h.xc i (by omega)).2
      fod := fun i hi => by
        by_cases hin : i = n
        · subst hin
          rw [put_same, put_same]
          exact ((hu.low (by omega)).kept ((Kept.refl [] w1).alloc _) (by simp)).kept q' (by simp)
        · rw [put_other _ _ _ hin, put_other _ _ _ hin]
          exact ((h.fod i (by omega)).low (by omega)).kept qa (by simp)
      inj := fun i j hi hj hij e => by
        by_cases hin : i = n
        · subst hin
          rw [pA_last, pA_lt (by omega)] at e
          injection e with e _
          have := oldx j (by omega); omega
        · by_cases hjn : j = n
          · subst hjn
            rw [pA_last, pA_lt (by omega)] at e
            injection e with e _
            have := oldx i (by omega); omega
          · rw [pA_lt (by omega), pA_lt (by omega)] at e
            injection e with e _
            exact xinj i j (by omega) (by omega) hij e
      dj := fun i j hi hj hij g hg hg2 => by
        by_cases hin : i = n
        · subst hin
          rw [put_same] at hg
          rw [put_other _ _ _ (Ne.symm hij)] at hg2
          have := new g hg
          have := old j (by omega) g hg2
          omega
        · rw [put_other _ _ _ hin] at hg
          by_cases hjn : j = n
          · subst hjn
            rw [put_same] at hg2
            have := new g hg2
            have := old i (by omega) g hg
            omega
          · rw [put_other _ _ _ hjn] at hg2
            rcases Nat.lt_or_gt_of_ne hij with e | e
            · have := (h.inc i j e (by omega)).2 g hg; have := h.lo j (by omega) g hg2; omega
            · have := (h.inc j i e (by omega)).2 g hg2; have := h.lo i (by omega) g hg; omega
      q := fun i hi => by
        by_cases hin : i = n
        · subst hin; rw [pA_last]; exact Or.inl rfl
        · rw [pA_lt (by omega)]; exact Or.inr (Or.inr (Or.inr (Or.inr ⟨i, by omega, rfl⟩)))
      lt := fun b hb' => by
        have hs := q'.size
        simp only [World.size_alloc] at hs
        rcases hb' with e | e | e | e | ⟨i, hi, e⟩
        · omega
        · omega
        · omega
        · omega
        · have := oldx i hi; omega
      bs := fun b hb' => by
        rcases hb' with e | e | e | e | ⟨i, hi, e⟩
        · omega
        · omega
        · omega
        · omega
        · have := oldx i hi; omega
      sep := fun i hi g hg hq => by
        by_cases hin : i = n
        · subst hin
          rw [put_same] at hg
          have := new g hg
          rcases hq with e | e | e | e | ⟨j, hj, e⟩
          · omega
          · omega
          · omega
          · omega
          · have := oldx j hj; omega
        · rw [put_other _ _ _ hin] at hg
          have h1 := old i (by omega) g hg
          have h2 := oldx i (by omega)
          rcases hq with e | e | e | e | ⟨j, hj, e⟩
          · omega
          · omega
          · omega
          · omega
          · exact ox i j (by omega) hj g hg e }
    c0 := cell_of_block hn 0
    e0 := fun i hi => qa.cell (h.es i hi).1 (by simp)
    e1 := fun i hi => qa.cell (h.es i hi).2 (by simp)
    vs := fun i hi => qa.cell (h.vs i hi) (by simp)
    ne := by omega
    vn := by omega
    vx := fun i hi => by have := oldx i hi; omega
    xe := fun i hi => by have := oldx i hi; omega
    pn := by omega
    px := fun i hi => by have := oldx i hi; omega
    pass := hpass }

/-- Another pass looks at the array. -/
theorem ArrW.again {w w' : World} {base nb eb n pb pb' vb : Nat} {x : Nat → Nat} {v : Nat → Value} {l : Nat → List FE} (h : ArrW w base nb eb n pb vb x v l) (q : Kept [] w w') (hp : w.heap.size ≤ pb') (hp' : pb' < w'.heap.size) (hpass : IsPass w' pb') (hb : base ≤ w.heap.size) :
    ArrW w' base nb eb n pb' vb x v l := by
  have k := h.kept q
  have lt := h.fam.lt
  have nbl := lt nb (Or.inl rfl)
  have xl : ∀ i, i < n → x i < w.heap.size := fun i hi => lt _ (Or.inr (Or.inr (Or.inr (Or.inr ⟨i, hi, rfl⟩))))
  exact {
    fam := {
      c := k.fam.c
      f := k.fam.f
      fod := k.fam.fod
      inj := k.fam.inj
      dj := k.fam.dj
      q := fun i hi => by
        unfold pA
        split
        · rename_i hin; exact Or.inr (Or.inr (Or.inr (Or.inr ⟨i, hin, rfl⟩)))
        · exact Or.inl rfl
      lt := fun b hb' => by
        rcases hb' with e | e | e | e
        · exact k.fam.lt b (Or.inl e)
        · exact k.fam.lt b (Or.inr (Or.inl e))
        · omega
        · exact k.fam.lt b (Or.inr (Or.inr (Or.inr e)))
      bs := fun b hb' => by
        rcases hb' with e | e | e | e
        · exact k.fam.bs b (Or.inl e)
        · exact k.fam.bs b (Or.inr (Or.inl e))
        · omega
        · exact k.fam.bs b (Or.inr (Or.inr (Or.inr e)))
      sep := fun i hi g hg hq => by
        rcases hq with e | e | e | e
        · exact k.fam.sep i hi g hg (Or.inl e)
        · exact k.fam.sep i hi g hg (Or.inr (Or.inl e))
        · have := (World.ownsRow.lt (h.fam.fod i hi) g hg).2; omega
        · exact k.fam.sep i hi g hg (Or.inr (Or.inr (Or.inr e))) }
    c0 := k.c0
    e0 := k.e0
    e1 := k.e1
    vs := k.vs
    ne := k.ne
    vn := k.vn
    vx := k.vx
    xe := k.xe
    pn := by omega
    px := fun i hi => by have := xl i hi; omega
    pass := hpass }

theorem Tryf.infoPV : (Tryf.prog.info? 58).map (fun i => (i.zero, i.size, i.bytes)) = some (some (.pointer none), 1, 8) := by kernel_rfl
theorem Tryf.infoCS : (Tryf.prog.info? 181).map (fun i => (i.zero, i.size, i.bytes)) = some (some (.agg #[.nilIface, .slice none 0 0]), 2, 40) := by kernel_rfl
end Go.Proofs.YtepipmjcfnncdaaFmt
