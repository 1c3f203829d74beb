/- The walk of the law FnRemoveCommaKeepsLineBreaks: it returns true at every flag and two slices of codes, and writes nothing that was there. -/
import Derived.Test.YtinaihfbakkcmaaFmtZz
namespace Go.Proofs.YtinaihfbakkcmaaFmt
open Go.ChangeShapes Go.WideShapes Go.ChangeAt Go.RowKit

theorem anyNL_append (l m : List FE) : anyNL (l ++ m) = (anyNL l || anyNL m) := by simp [anyNL]

theorem clean_anyNL {l : List FE} (h : clean l = true) : anyNL l = true := by
  unfold clean at h
  split at h
  · rename_i e he
    exact anyNL_hit l (l.length - 1) e (by rw [← List.getLast?_eq_getElem?]; exact he) h
  · cases h

theorem anyNL_set {l : List FE} {n : Nat} {x y : FE} (hx : l[n]? = some x) (hk : x.k = y.k) : anyNL (l.set n y) = anyNL l := by
  induction l generalizing n with
  | nil => simp at hx
  | cons a l ih =>
    cases n with
    | zero => simp at hx; subst hx; simp [anyNL, hk]
    | succ n =>
      simp at hx
      have := ih hx
      unfold anyNL at this ⊢
      simp only [List.set_cons_succ, List.any_cons, this]

theorem Step.anyNL {l l' : List FE} {e : FE} (h : Step l e l') : anyNL l' = (anyNL l || (e.k != 1)) := by
  rcases h with ⟨hc, hk, n, x, _, hx, rfl⟩ | ⟨_, hk, ca, rfl⟩ | ⟨_, _, rfl⟩
  · have h1 := anyNL_set (y := { x with b := wrap64 (x.b + e.b), i := e.i }) hx rfl
    rw [h1, clean_anyNL hc]; rfl
  · rw [anyNL_append]; simp [Go.Proofs.YtinaihfbakkcmaaFmt.anyNL, hk]
  · rw [anyNL_append]; simp [Go.Proofs.YtinaihfbakkcmaaFmt.anyNL]

theorem Conc.anyNL {a b l : List FE} (h : Conc a b l) : anyNL l = (anyNL a || anyNL b) := by
  rcases h with ⟨rfl, rfl⟩ | ⟨rfl, rfl⟩ | ⟨x, t, m, _, rfl, hs, rfl⟩
  · simp [Go.Proofs.YtinaihfbakkcmaaFmt.anyNL]
  · simp [Go.Proofs.YtinaihfbakkcmaaFmt.anyNL]
  · rw [anyNL_append, hs.anyNL]
    simp [Go.Proofs.YtinaihfbakkcmaaFmt.anyNL, Bool.or_assoc]

/-- No element carries a comment. -/
def Plain (l : List FE) : Prop := ∀ e ∈ l, e.cl = 0
theorem Plain.cfe (z : List Int) : Plain (z.map cfe) := by
  intro e he
  rw [List.mem_map] at he
  obtain ⟨v, _, rfl⟩ := he
  rfl
theorem Plain.head {l : List FE} (h : Plain l) : ∀ x, l[0]? = some x → x.k = 0 → x.cl = 0 := fun x hx _ => h x (List.mem_of_getElem? hx)
theorem Step.plain {l l' : List FE} {e : FE} (h : Step l e l') (hl : Plain l) (he : e.cl = 0) : Plain l' := by
  rcases h with ⟨hc, hk, n, x, _, hx, rfl⟩ | ⟨_, hk, ca, rfl⟩ | ⟨_, _, rfl⟩
  · intro y hy
    rcases List.mem_or_eq_of_mem_set hy with h | rfl
    · exact hl y h
    · exact hl x (List.mem_of_getElem? hx)
  · intro y hy
    simp at hy
    rcases hy with h | rfl | rfl
    · exact hl y h
    · rfl
    · exact he
  · intro y hy
    simp at hy
    rcases hy with h | rfl
    · exact hl y h
    · exact he
theorem Conc.plain {a b l : List FE} (h : Conc a b l) (ha : Plain a) (hb : Plain b) : Plain l := by
  rcases h with ⟨rfl, rfl⟩ | ⟨rfl, rfl⟩ | ⟨x, t, m, _, rfl, hs, rfl⟩
  · exact hb
  · exact ha
  · intro y hy
    rw [List.mem_append] at hy
    rcases hy with h | h
    · exact hs.plain ha (hb x (by simp)) y h
    · exact hb y (by simp [h])
theorem Conc.length {a b l : List FE} (h : Conc a b l) : l.length ≤ a.length + b.length + 1 := by
  rcases h with ⟨rfl, rfl⟩ | ⟨rfl, rfl⟩ | ⟨x, t, m, _, rfl, hs, rfl⟩
  · omega
  · omega
  · have := hs.length
    simp at *
    omega

/-- Three new blocks hold a flag and two fodders. -/
theorem two_new {w w1 w2 : World} {B : Nat} {v1 v2 : Value} {l1 l2 : List FE} (tc : Bool) (hB : B ≤ w.heap.size) (h1 : Fod w1 w.heap.size v1 l1) (hk1 : Kept [] w w1)
    (h2 : Fod w2 (w1.heap.size + 1) v2 l2) (hk2 : Kept [] (w1.alloc (.cells #[v1] 29)) w2) :
    Two ((w2.alloc (.cells #[v2] 29)).alloc (.cells #[.bool tc] 4)) B ⟨w1.heap.size, 0, none⟩ ⟨w2.heap.size + 1, 0, none⟩ ⟨w2.heap.size, 0, none⟩ tc v1 v2 l1 l2 := by
  have s1 := hk1.size
  have s2 := hk2.size
  simp at s2
  have b1 : (w1.alloc (.cells #[v1] 29)).heap[w1.heap.size]? = some (.cells #[v1] 29) := heap_alloc_new _ _
  have b2 := hk2.heap b1 (by simp)
  have kk : Kept [] w2 ((w2.alloc (.cells #[v2] 29)).alloc (.cells #[.bool tc] 4)) := ((Kept.refl [] _).alloc _).alloc _
  have b3 := kk.heap b2 (by simp)
  have b4 : ((w2.alloc (.cells #[v2] 29)).alloc (.cells #[.bool tc] 4)).heap[w2.heap.size]? = some (.cells #[v2] 29) := ((Kept.refl [] _).alloc _).heap (heap_alloc_new _ _) (by simp)
  have b5 : ((w2.alloc (.cells #[v2] 29)).alloc (.cells #[.bool tc] 4)).heap[w2.heap.size + 1]? = some (.cells #[.bool tc] 4) := by
    have := heap_alloc_new (w2.alloc (.cells #[v2] 29)) (.cells #[.bool tc] 4)
    rwa [show (w2.alloc (.cells #[v2] 29)).heap.size = w2.heap.size + 1 by simp] at this
  have o1 := World.ownsRow.lt h1
  have o2 := World.ownsRow.lt h2
  have low : ∀ {w : World} {b b' : Nat} {v : Value} {l : List FE}, Fod w b v l → b' ≤ b → Fod w b' v l := by
    intro w b b' v l h hb
    refine ⟨h.1, ?_⟩
    rcases h.2 with h | ⟨g, cap, cur, e1, e2, e3⟩
    · exact Or.inl h
    · exact Or.inr ⟨g, cap, cur, e1, Nat.le_trans hb e2, e3⟩
  exact {
    cp := by simp [World.cell?, b3]
    ct := by unfold World.cell?; dsimp only; rw [b5]; rfl
    cq := by simp [World.cell?, b4]
    fp := by simp [World.frozen?, b3]
    ft := by unfold World.frozen?; dsimp only; rw [b5]; rfl
    fq := by simp [World.frozen?, b4]
    pq := by intro e; injection e with e _; omega
    pt := by intro e; injection e with e _; omega
    qt := by intro e; injection e with e _; omega
    l := (((low h1 hB).kept ((Kept.refl [] _).alloc _) (by simp)).kept hk2 (by simp)).kept kk (by simp)
    c := (low h2 (by omega)).kept kk (by simp)
    al := fun g hg => by
      have := o1 g hg
      refine ⟨by dsimp only; omega, by dsimp only; omega, by dsimp only; omega, fun e => ?_⟩
      have := o2 g e
      omega
    ac := fun g hg => by
      have := o2 g hg
      refine ⟨by dsimp only; omega, by dsimp only; omega, by dsimp only; omega⟩ }

set_option maxHeartbeats 400000 in
theorem zzBytes_RmC (w : World) (b : Bool) (a : Option Addr) (len cap : Nat) (a1 : Option Addr) (len1 cap1 : Nat) (h : len ≤ 9223372036854775807) (h1 : len1 ≤ 9223372036854775807) :
    Calls Tryf.prog 20 #[.bool b, .slice a len cap, .slice a1 len1 cap1] w (SomeBool w) := by
  go_enter Tryf.func20, Tryf.ntmps20
  go_wp2
  all_goals
    go_ret
    exact ⟨_, rfl, rfl⟩

namespace fnRemoveCommaKeepsLineBreaks
set_option maxRecDepth 100000 in
set_option maxHeartbeats 1000000 in
theorem walk (a0 : Bool) (a1 : Option Addr) (len1 cap1 : Nat) (z1 : List Int) (a2 : Option Addr) (len2 cap2 : Nat) (z2 : List Int) (w : World) (w1 : IsRow .i32 w a1 len1 cap1 z1) (w2 : IsRow .i32 w a2 len2 cap2 z2) :
    Calls Tryf.prog 5 #[.bool a0, .slice a1 len1 cap1, .slice a2 len2 cap2] w fun e w' => e = .returned (.bool true) ∧ Below w.heap.size w w' := by
  obtain ⟨hlc, hcm, hzl, _, hcell⟩ := w1.open
  obtain ⟨hlc1, hcm1, hzl1, _, hcell1⟩ := w2.open
  unfold maxLen at hcm hcm1
  have hb0 : len1 ≤ 9223372036854775807 := by omega
  have hb1 : len2 ≤ 9223372036854775807 := by omega
  have W1 := Lib.hid w1; clear w1
  have W2 := Lib.hid w2; clear w2
  clear hcell hcell1 hzl hzl1
  go_enter Tryf.func5, Tryf.ntmps5
  go_wp2_with fail
  refine (zzBytes_RmC _ _ _ _ _ _ _ _ hb0 hb1).mono ?_
  rintro e w' ⟨b, rfl, rfl⟩
  cases b
  · go_wp2_with fail
    go_ret
    exact ⟨rfl, Below.refl _ _⟩
  by_cases h2 : 65536 < len1
  · go_wp2_with fail
    go_ret
    exact ⟨rfl, Below.refl _ _⟩
  by_cases h3 : 65536 < len2
  · go_wp2_with fail
    go_ret
    exact ⟨rfl, Below.refl _ _⟩
  go_wp2_with fail
  refine (zzCodesBreak_any _ _ _ _ z1 W1.out).mono ?_
  rintro e w' ⟨rfl, rfl⟩
  obtain ⟨L1, hL1⟩ : ∃ L1, (z1.take len1).map cfe = L1 := ⟨_, rfl⟩
  obtain ⟨L2, hL2⟩ : ∃ L2, (z2.take len2).map cfe = L2 := ⟨_, rfl⟩
  have hP1 : Plain L1 := hL1 ▸ Plain.cfe _
  have hP2 : Plain L2 := hL2 ▸ Plain.cfe _
  have hN1 : L1.length ≤ 65536 := by rw [← hL1, List.length_map, List.length_take]; omega
  have hN2 : L2.length ≤ 65536 := by rw [← hL2, List.length_map, List.length_take]; omega
  have HL1 := Lib.hid hL1; clear hL1
  have HL2 := Lib.hid hL2; clear hL2
  have HP1 := Lib.hid hP1; clear hP1
  have HP2 := Lib.hid hP2; clear hP2
  rw [HL1.out]
  obtain ⟨A, hA⟩ : ∃ A, anyNL L1 = A := ⟨_, rfl⟩
  obtain ⟨C, hC⟩ : ∃ C, anyNL L2 = C := ⟨_, rfl⟩
  rw [hA]
  have HA := Lib.hid hA; clear hA
  have HC := Lib.hid hC; clear hC
  cases A
  · go_wp2_with fail
    refine (zzCodesBreak_any _ _ _ _ z2 W2.out).mono ?_
    rintro e w' ⟨rfl, rfl⟩
    rw [HL2.out, HC.out]
    go_wp2_with fail
    refine (zzFodder_any _ _ _ _ z1 W1.out (by omega)).mono ?_
    rintro e w1 ⟨v1, rfl, hf1, hk1⟩
    rw [HL1.out] at hf1
    obtain ⟨b1, c1, rfl, -⟩ := hf1.slice
    have HF1 := Lib.hid hf1; clear hf1
    have HK1 := Lib.hid hk1; clear hk1
    go_wp2_with fail
    refine (zzFodder_any _ _ _ _ z2 ((HK1.out.alloc _).ints W2.out (by simp)) (by omega)).mono ?_
    rintro e w2 ⟨v2, rfl, hf2, hk2⟩
    rw [HL2.out, show (w1.alloc (.cells #[.slice b1 L1.length c1] 29)).heap.size = w1.heap.size + 1 by simp] at hf2
    obtain ⟨b2, c2, rfl, -⟩ := hf2.slice
    have htwo := two_new a0 (Nat.le_refl _) HF1.out HK1.out hf2 hk2
    have hs1 := HK1.out.size
    have hs2 := hk2.size
    rw [show (w1.alloc (.cells #[.slice b1 L1.length c1] 29)).heap.size = w1.heap.size + 1 by simp] at hs2
    have hbl : Below w.heap.size w ((w2.alloc (.cells #[.slice b2 L2.length c2] 29)).alloc (.cells #[.bool a0] 4)) := ((((HK1.out.alloc _).trans hk2).alloc _).alloc _).below (Nat.le_refl _) (by simp)
    have HT := Lib.hid htwo; clear htwo
    have HBL := Lib.hid hbl; clear hbl
    clear hf2 hk2
    go_wp2_with fail
    refine (ZZremoveComma_any _ w.heap.size _ _ _ _ _ _ a0 _ _ L1 L2 HT.out (by omega) (by simp; omega) HP2.out.head).mono ?_
    rintro e w4 ⟨rfl, ll, lc, hrm, vl, vc, ht4, hk4, -, -, -⟩
    have hb4 : Below w.heap.size w w4 := by
      refine HBL.out.trans (hk4.below (by simp; omega) ?_)
      intro k hk
      simp [Value.ownBlock] at hk
      rcases hk with rfl | rfl | rfl | hk
      · omega
      · omega
      · omega
      · have := (World.ownsRow.lt HF1.out k (by cases b1 <;> simp [Value.ownBlock] at hk ⊢; exact hk)).1
        exact this
    have ct := ht4.ct
    have cp := ht4.cp
    have cq := ht4.cq
    obtain ⟨pa, pc, rfl, -⟩ := ht4.l.slice
    obtain ⟨qa, qc, rfl, -⟩ := ht4.c.slice
    have HT4 := Lib.hid ht4; clear ht4
    have hfin : (anyNL ll || anyNL lc) = (anyNL L1 || anyNL L2) := by
      rcases hrm with ⟨_, rfl, hc⟩ | ⟨_, rfl, rfl⟩
      · rw [hc.anyNL]; rfl
      · rfl
    have hlen0 : a0 = true → ll.length = 0 := by
      intro ha
      rcases hrm with ⟨_, rfl, _⟩ | ⟨hf, _⟩
      · rfl
      · rw [ha] at hf; cases hf
    rw [HA.out, HC.out] at hfin
    have HFIN := Lib.hid hfin; clear hfin hrm
    have HLEN := Lib.hid hlen0; clear hlen0
    clear hk4 HT HBL
    obtain ⟨X, hX⟩ : ∃ X, anyNL ll = X := ⟨_, rfl⟩
    obtain ⟨Y, hY⟩ : ∃ Y, anyNL lc = Y := ⟨_, rfl⟩
    have HX := Lib.hid hX; clear hX
    have HY := Lib.hid hY; clear hY
    have hpl : ll.length ≤ 9223372036854775807 := by
      obtain ⟨_, _, _, q1, q2, _⟩ := HT4.out.l.slice
      unfold maxLen at q2
      omega
    cases a0
    · go_wp2_with fail
      refine (zzFodderBreak_any _ _ _ _ HT4.out.l).mono ?_
      rintro e w' ⟨rfl, rfl⟩
      rw [HX.out]
      cases X
      · go_wp2_with fail
        refine (zzFodderBreak_any _ _ _ _ HT4.out.c).mono ?_
        rintro e w' ⟨rfl, rfl⟩
        go_wp2_with fail
        go_ret
        have := HFIN.out
        rw [HX.out] at this
        exact ⟨by simp at this; first | (simp; done) | simp [this], hb4⟩
      · go_wp2_with fail
        go_ret
        have := HFIN.out
        rw [HX.out] at this
        exact ⟨by simp at this; first | (simp; done) | simp [this], hb4⟩
    · have hz : ((ll.length : Int) != 0) = false := by rw [HLEN.out rfl]; rfl
      go_wp2_with fail
      refine (zzFodderBreak_any _ _ _ _ HT4.out.l).mono ?_
      rintro e w' ⟨rfl, rfl⟩
      rw [HX.out]
      cases X
      · go_wp2_with fail
        refine (zzFodderBreak_any _ _ _ _ HT4.out.c).mono ?_
        rintro e w' ⟨rfl, rfl⟩
        go_wp2_with fail
        go_ret
        have := HFIN.out
        rw [HX.out] at this
        exact ⟨by simp at this; first | (simp; done) | simp [this], hb4⟩
      · go_wp2_with fail
        go_ret
        have := HFIN.out
        rw [HX.out] at this
        exact ⟨by simp at this; first | (simp; done) | simp [this], hb4⟩
  · go_wp2_with fail
    refine (zzFodder_any _ _ _ _ z1 W1.out (by omega)).mono ?_
    rintro e w1 ⟨v1, rfl, hf1, hk1⟩
    rw [HL1.out] at hf1
    obtain ⟨b1, c1, rfl, -⟩ := hf1.slice
    have HF1 := Lib.hid hf1; clear hf1
    have HK1 := Lib.hid hk1; clear hk1
    go_wp2_with fail
    refine (zzFodder_any _ _ _ _ z2 ((HK1.out.alloc _).ints W2.out (by simp)) (by omega)).mono ?_
    rintro e w2 ⟨v2, rfl, hf2, hk2⟩
    rw [HL2.out, show (w1.alloc (.cells #[.slice b1 L1.length c1] 29)).heap.size = w1.heap.size + 1 by simp] at hf2
    obtain ⟨b2, c2, rfl, -⟩ := hf2.slice
    have htwo := two_new a0 (Nat.le_refl _) HF1.out HK1.out hf2 hk2
    have hs1 := HK1.out.size
    have hs2 := hk2.size
    rw [show (w1.alloc (.cells #[.slice b1 L1.length c1] 29)).heap.size = w1.heap.size + 1 by simp] at hs2
    have hbl : Below w.heap.size w ((w2.alloc (.cells #[.slice b2 L2.length c2] 29)).alloc (.cells #[.bool a0] 4)) := ((((HK1.out.alloc _).trans hk2).alloc _).alloc _).below (Nat.le_refl _) (by simp)
    have HT := Lib.hid htwo; clear htwo
    have HBL := Lib.hid hbl; clear hbl
    clear hf2 hk2
    go_wp2_with fail
    refine (ZZremoveComma_any _ w.heap.size _ _ _ _ _ _ a0 _ _ L1 L2 HT.out (by omega) (by simp; omega) HP2.out.head).mono ?_
    rintro e w4 ⟨rfl, ll, lc, hrm, vl, vc, ht4, hk4, -, -, -⟩
    have hb4 : Below w.heap.size w w4 := by
      refine HBL.out.trans (hk4.below (by simp; omega) ?_)
      intro k hk
      simp [Value.ownBlock] at hk
      rcases hk with rfl | rfl | rfl | hk
      · omega
      · omega
      · omega
      · have := (World.ownsRow.lt HF1.out k (by cases b1 <;> simp [Value.ownBlock] at hk ⊢; exact hk)).1
        exact this
    have ct := ht4.ct
    have cp := ht4.cp
    have cq := ht4.cq
    obtain ⟨pa, pc, rfl, -⟩ := ht4.l.slice
    obtain ⟨qa, qc, rfl, -⟩ := ht4.c.slice
    have HT4 := Lib.hid ht4; clear ht4
    have hfin : (anyNL ll || anyNL lc) = (anyNL L1 || anyNL L2) := by
      rcases hrm with ⟨_, rfl, hc⟩ | ⟨_, rfl, rfl⟩
      · rw [hc.anyNL]; rfl
      · rfl
    have hlen0 : a0 = true → ll.length = 0 := by
      intro ha
      rcases hrm with ⟨_, rfl, _⟩ | ⟨hf, _⟩
      · rfl
      · rw [ha] at hf; cases hf
    rw [HA.out, HC.out] at hfin
    have HFIN := Lib.hid hfin; clear hfin hrm
    have HLEN := Lib.hid hlen0; clear hlen0
    clear hk4 HT HBL
    obtain ⟨X, hX⟩ : ∃ X, anyNL ll = X := ⟨_, rfl⟩
    obtain ⟨Y, hY⟩ : ∃ Y, anyNL lc = Y := ⟨_, rfl⟩
    have HX := Lib.hid hX; clear hX
    have HY := Lib.hid hY; clear hY
    have hpl : ll.length ≤ 9223372036854775807 := by
      obtain ⟨_, _, _, q1, q2, _⟩ := HT4.out.l.slice
      unfold maxLen at q2
      omega
    cases a0
    · go_wp2_with fail
      refine (zzFodderBreak_any _ _ _ _ HT4.out.l).mono ?_
      rintro e w' ⟨rfl, rfl⟩
      rw [HX.out]
      cases X
      · go_wp2_with fail
        refine (zzFodderBreak_any _ _ _ _ HT4.out.c).mono ?_
        rintro e w' ⟨rfl, rfl⟩
        go_wp2_with fail
        go_ret
        have := HFIN.out
        rw [HX.out] at this
        exact ⟨by simp at this; first | (simp; done) | simp [this], hb4⟩
      · go_wp2_with fail
        go_ret
        have := HFIN.out
        rw [HX.out] at this
        exact ⟨by simp at this; first | (simp; done) | simp [this], hb4⟩
    · have hz : ((ll.length : Int) != 0) = false := by rw [HLEN.out rfl]; rfl
      go_wp2_with fail
      refine (zzFodderBreak_any _ _ _ _ HT4.out.l).mono ?_
      rintro e w' ⟨rfl, rfl⟩
      rw [HX.out]
      cases X
      · go_wp2_with fail
        refine (zzFodderBreak_any _ _ _ _ HT4.out.c).mono ?_
        rintro e w' ⟨rfl, rfl⟩
        go_wp2_with fail
        go_ret
        have := HFIN.out
        rw [HX.out] at this
        exact ⟨by simp at this; first | (simp; done) | simp [this], hb4⟩
      · go_wp2_with fail
        go_ret
        have := HFIN.out
        rw [HX.out] at this
        exact ⟨by simp at this; first | (simp; done) | simp [this], hb4⟩
end fnRemoveCommaKeepsLineBreaks
end Go.Proofs.YtinaihfbakkcmaaFmt
