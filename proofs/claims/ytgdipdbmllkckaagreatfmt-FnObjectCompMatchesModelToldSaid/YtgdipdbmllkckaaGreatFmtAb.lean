/- n008_142's array comprehension is laid. -/
import Derived.Test.YtgdipdbmllkckaaGreatFmtAc
namespace Go.Proofs.YtgdipdbmllkckaaGreatFmt
open Go.ChangeShapes Go.WideShapes Go.ChangeAt Go.RowKit

/-- A fodder's own block is none of a chain's. -/
theorem Raw.sepF {w : World} {base n b : Nat} {P : Pl} {v : Nat × Nat → Value} {l : Nat × Nat → List FE} (h : Raw w base n P v l) {u : Value} {m : List FE} (hf : Fod w b u m) : ∀ g, u.ownBlock = some g → ¬ P.Q n g := by
  rintro g hg ⟨i, hi, hq⟩
  obtain ⟨cs, hc⟩ := hf.own.typ g (by simp [hg])
  rcases hq with rfl | ⟨hm, rfl⟩ | rfl | ⟨j, hj, rfl⟩
  · exact blk_ne hc (h.lb i hi) (by decide) rfl
  · obtain ⟨cs2, hc2⟩ := h.cbt i hi hm
    exact blk_ne hc hc2 (by decide) rfl
  · exact blk_ne hc (h.xe i hi) (by decide) rfl
  · exact blk_ne hc (h.xi i j hi hj) (by decide) rfl

def acV (n : Nat) (v : Nat × Nat → Value) (u1 u2 : Value) (x : Nat × Nat) : Value := if x = (n, 0) then u2 else if x = (n, 1) then u1 else v x
def acL (n : Nat) (l : Nat × Nat → List FE) (m1 m2 : List FE) (x : Nat × Nat) : List FE := if x = (n, 0) then m2 else if x = (n, 1) then m1 else l x
theorem acV_c (n : Nat) (v : Nat × Nat → Value) (u1 u2 : Value) : acV n v u1 u2 (n, 0) = u2 := if_pos rfl
theorem acV_b (n : Nat) (v : Nat × Nat → Value) (u1 u2 : Value) : acV n v u1 u2 (n, 1) = u1 := by unfold acV; rw [if_neg (by simp), if_pos rfl]
theorem acL_c (n : Nat) (v : Nat × Nat → List FE) (u1 u2 : List FE) : acL n v u1 u2 (n, 0) = u2 := if_pos rfl
theorem acL_b (n : Nat) (v : Nat × Nat → List FE) (u1 u2 : List FE) : acL n v u1 u2 (n, 1) = u1 := by unfold acL; rw [if_neg (by simp), if_pos rfl]
theorem in_ne {P : Pl} {n : Nat} {x : Nat × Nat} (h : P.In n x) : x ≠ (n, 0) ∧ x ≠ (n, 1) := by
  obtain ⟨i, j⟩ := x
  have hi : i < n := h.1
  exact ⟨by simp; omega, by simp; omega⟩
theorem acV_in {P : Pl} {n : Nat} {v : Nat × Nat → Value} {u1 u2 : Value} {x : Nat × Nat} (h : P.In n x) : acV n v u1 u2 x = v x := by unfold acV; rw [if_neg (in_ne h).1, if_neg (in_ne h).2]
theorem acL_in {P : Pl} {n : Nat} {v : Nat × Nat → List FE} {u1 u2 : List FE} {x : Nat × Nat} (h : P.In n x) : acL n v u1 u2 x = v x := by unfold acL; rw [if_neg (in_ne h).1, if_neg (in_ne h).2]

theorem acn_of {w w' : World} {base n nb lb b1 b2 : Nat} {P : Pl} {v : Nat × Nat → Value} {l : Nat × Nat → List FE} {u1 u2 : Value} {m1 m2 : List FE} (h : Raw w base (n + 1) P v l) (q : Kept [] w w') (hb : base ≤ w.heap.size) (f1 : Fod w b1 u1 m1) (f2 : Fod w b2 u2 m2) (hb1 : base ≤ b1) (hb2 : base ≤ b2)
    (d1 : ∀ x, P.In (n + 1) x → ∀ g, (v x).ownBlock = some g → u1.ownBlock ≠ some g) (d2 : ∀ x, P.In (n + 1) x → ∀ g, (v x).ownBlock = some g → u2.ownBlock ≠ some g) (d12 : ∀ g, u1.ownBlock = some g → u2.ownBlock ≠ some g)
    {rest : List Value} (hn : w'.heap[nb]? = some (.cells (nulI lb :: .slice none 0 0 :: v (n, 0) :: .slice none 0 0 :: .slice (P.ca n) (P.m n) (P.cc n) :: P.out n :: nulI (P.xe n) :: .string ⟨#[120]⟩ :: .slice none 0 0 :: u2 :: rest).toArray 255 (0, 0)))
    {rest2 : List Value} (hl : w'.heap[lb]? = some (.cells (u1 :: rest2).toArray 106 (0, 0))) (hnb : w.heap.size ≤ nb) (hlb : w.heap.size ≤ lb) :
    ACN w' base nb lb (n + 1) (P.to n nb 2) (fun g => ((P.Q (n + 1) g ∨ g = nb) ∨ g = nb) ∨ g = lb) (acV (n + 1) v u1 u2) (acL (n + 1) l m1 m2) := by
  have hnl : nb ≠ lb := blk_ne hn hl (by decide)
  obtain ⟨ch, fam, fr, hQ⟩ := h.moveTo (g := nb) (o := 2) q hb (fun j hj => by
    match j, hj with
    | 0, _ => exact cell_of_block hn 2
    | 1, _ => exact cell_of_block hn 3
    | 2, _ => exact cell_of_block hn 4
    | 3, _ => exact cell_of_block hn 5
    | 4, _ => exact cell_of_block hn 6
    | 5, _ => exact cell_of_block hn 7
    | 6, _ => exact cell_of_block hn 8) (frozen_of_block hn 2) hnb
  have fm := h.fam
  have lt1 : ∀ g, u1.ownBlock = some g → g < w.heap.size := fun g hg => (World.ownsRow.lt f1 g hg).2
  have lt2 : ∀ g, u2.ownBlock = some g → g < w.heap.size := fun g hg => (World.ownsRow.lt f2 g hg).2
  have ltv : ∀ x, P.In (n + 1) x → ∀ g, (v x).ownBlock = some g → g < w.heap.size := fun x hx g hg => (World.ownsRow.lt (h.fod x hx) g hg).2
  have qlt : ∀ g, P.Q (n + 1) g → g < w.heap.size := fm.lt
  have pIn : ∀ x, P.In (n + 1) x → acp (P.to n nb 2) (n + 1) nb lb x = (P.to n nb 2).pos x := fun x hx => acp_in (P := P.to n nb 2) hx
  have posNb : ∀ x, P.In (n + 1) x → (P.to n nb 2).pos x = (nb, 2) ∨ (P.to n nb 2).pos x = P.pos x := fun x hx => by
    rw [Pl.to_pos]
    by_cases hxn : x = (n, 0)
    · rw [if_pos hxn]; exact Or.inl rfl
    · rw [if_neg hxn]; exact Or.inr rfl
  have pq : ∀ x, P.In (n + 1) x → (P.pos x).1 < w.heap.size := fun x hx => qlt _ (fm.q x hx)
  have F1 : FamI w' base (fun x => (P.to n nb 2).In (n + 1) x) (acp (P.to n nb 2) (n + 1) nb lb) (fun g => P.Q (n + 1) g ∨ g = nb) (acV (n + 1) v u1 u2) (acL (n + 1) l m1 m2) :=
    fam.as (fun x hx => hx) (fun x hx => pIn x hx) (fun x hx => acV_in (P := P) hx) (fun x hx => acL_in (P := P) hx)
  have F2 : FamI w' base (fun x => x = (n + 1, 0)) (acp (P.to n nb 2) (n + 1) nb lb) (fun g => g = nb) (acV (n + 1) v u1 u2) (acL (n + 1) l m1 m2) :=
    FamI.one (acp_c _ _ _ _) (by rw [acV_c]; exact cell_of_block hn 9) (frozen_of_block hn 9) (by rw [acV_c, acL_c]; exact (f2.kept q (by simp)).low hb2) (by omega) (fun g hg => by rw [acV_c] at hg; have := lt2 g hg; omega)
  have F3 : FamI w' base (fun x => x = (n + 1, 1)) (acp (P.to n nb 2) (n + 1) nb lb) (fun g => g = lb) (acV (n + 1) v u1 u2) (acL (n + 1) l m1 m2) :=
    FamI.one (acp_b _ _ _ _) (by rw [acV_b]; exact cell_of_block hl 0) (frozen_of_block hl 0) (by rw [acV_b, acL_b]; exact (f1.kept q (by simp)).low hb1) (by omega) (fun g hg => by rw [acV_b] at hg; have := lt1 g hg; omega)
  have F12 := F1.or F2 (fun x y hx hy => by
      subst hy
      rw [pIn x hx, acp_c]
      rcases posNb x hx with e | e
      · rw [e]; simp
      · rw [e]; intro e2; have := pq x hx; have := congrArg Prod.fst e2; dsimp only at this; omega)
    (fun x y hx hy g hg => by subst hy; rw [acV_c]; rw [acV_in (P := P) hx] at hg; exact d2 x hx g hg)
    (fun x hx g hg e => by rw [acV_in (P := P) hx] at hg; have := ltv x hx g hg; omega)
    (fun x hx g hg e => by
      subst hx
      rw [acV_c] at hg
      rcases e with e | e
      · exact h.sepF f2 g hg e
      · have := lt2 g hg; omega)
  have F := F12.or F3 (fun x y hx hy => by
      subst hy
      rw [acp_b]
      rcases hx with hx | rfl
      · rw [pIn x hx]
        rcases posNb x hx with e | e
        · rw [e]; intro e2; exact hnl (congrArg Prod.fst e2)
        · rw [e]; intro e2; have := pq x hx; have := congrArg Prod.fst e2; dsimp only at this; omega
      · rw [acp_c]; intro e2; exact hnl (congrArg Prod.fst e2))
    (fun x y hx hy g hg => by
      subst hy
      rw [acV_b]
      rcases hx with hx | rfl
      · rw [acV_in (P := P) hx] at hg; exact d1 x hx g hg
      · rw [acV_c] at hg; exact fun e => d12 g e hg)
    (fun x hx g hg e => by
      rcases hx with hx | rfl
      · rw [acV_in (P := P) hx] at hg; have := ltv x hx g hg; omega
      · rw [acV_c] at hg; have := lt2 g hg; omega)
    (fun x hx g hg e => by
      subst hx
      rw [acV_b] at hg
      rcases e with (e | e) | e
      · exact h.sepF f1 g hg e
      · have := lt1 g hg; omega
      · have := lt1 g hg; omega)
  have nbq : ∀ i, i < n + 1 → ∀ g, (g = P.cb i ∧ 0 < P.m i) ∨ g = P.xe i ∨ (∃ j, j < P.m i ∧ g = P.xi i j) → g < w.heap.size := fun i hi g hg => by
    rcases hg with ⟨rfl, hm⟩ | rfl | ⟨j, hj, rfl⟩
    · exact qlt _ ⟨i, hi, Or.inr (Or.inl ⟨hm, rfl⟩)⟩
    · exact qlt _ ⟨i, hi, Or.inr (Or.inr (Or.inl rfl))⟩
    · exact qlt _ ⟨i, hi, Or.inr (Or.inr (Or.inr ⟨j, hj, rfl⟩))⟩
  have bto : ∀ i, i < n + 1 → ((P.to n nb 2).b i = nb ∧ (P.to n nb 2).o i = 2) ∨ (P.to n nb 2).b i < w.heap.size := fun i hi => by
    by_cases hin : i = n
    · subst hin; exact Or.inl ⟨putI_same _ _ _, putI_same _ _ _⟩
    · refine Or.inr ?_
      have : (P.to n nb 2).b i = P.b i := putI_other _ _ _ hin
      rw [this]
      exact qlt _ ⟨i, hi, Or.inl rfl⟩
  exact {
    pos := Nat.succ_pos n
    b := putI_same _ _ _
    o := putI_same _ _ _
    ch := ch
    fam := F.as (fun x hx => by
      rcases hx with hx | rfl | rfl
      · exact Or.inl (Or.inl hx)
      · exact Or.inl (Or.inr rfl)
      · exact Or.inr rfl) (fun _ _ => rfl) (fun _ _ => rfl) (fun _ _ => rfl)
    fr := {
      lv := fun x hx i k hi h1 h6 => by
        rcases hx with hx | rfl | rfl
        · rw [pIn x hx]; exact fr.lv x hx i k hi h1 h6
        · rw [acp_c]; intro e
          have e1 := congrArg Prod.fst e
          have e2 := congrArg Prod.snd e
          dsimp only at e1 e2
          rcases bto i hi with ⟨a, b⟩ | a
          · rw [b] at e2; omega
          · omega
        · rw [acp_b]; intro e
          have e1 := congrArg Prod.fst e
          dsimp only at e1
          rcases bto i hi with ⟨a, b⟩ | a
          · exact hnl (e1.trans a).symm
          · omega
      cd := fun x hx i j hi hj => by
        have hm : 0 < P.m i := Nat.lt_of_le_of_lt (Nat.zero_le _) hj
        have := nbq i hi (P.cb i) (Or.inl ⟨rfl, hm⟩)
        rcases hx with hx | rfl | rfl
        · rw [pIn x hx]; exact fr.cd x hx i j hi hj
        · rw [acp_c]; intro e
          have e1 : nb = P.cb i := congrArg Prod.fst e
          omega
        · rw [acp_b]; intro e
          have e1 : lb = P.cb i := congrArg Prod.fst e
          omega
      ne := fun x hx i hi => by
        have := nbq i hi (P.xe i) (Or.inr (Or.inl rfl))
        rcases hx with hx | rfl | rfl
        · rw [pIn x hx]; exact fr.ne x hx i hi
        · rw [acp_c]; intro e
          have e1 : nb = P.xe i := e
          omega
        · rw [acp_b]; intro e
          have e1 : lb = P.xe i := e
          omega
      ni := fun x hx i j hi hj => by
        have := nbq i hi (P.xi i j) (Or.inr (Or.inr ⟨j, hj, rfl⟩))
        rcases hx with hx | rfl | rfl
        · rw [pIn x hx]; exact fr.ni x hx i j hi hj
        · rw [acp_c]; intro e
          have e1 : nb = P.xi i j := e
          omega
        · rw [acp_b]; intro e
          have e1 : lb = P.xi i j := e
          omega }
    hQ := fun g hg => by
      rcases hQ g hg with a | a
      · exact Or.inl (Or.inl (Or.inl a))
      · exact Or.inl (Or.inl (Or.inr a))
    f01 := fun x hx => by
      rcases hx with hx | rfl | rfl
      · rw [pIn x hx]
        rcases posNb x hx with e | e
        · rw [e]; simp
        · rw [e]
          have := pq x hx
          constructor
          · intro e2; have := congrArg Prod.fst e2; dsimp only at this; omega
          · intro e2; have := congrArg Prod.fst e2; dsimp only at this; omega
      · rw [acp_c]; simp
      · rw [acp_b]
        constructor
        · intro e2; exact hnl (congrArg Prod.fst e2).symm
        · intro e2; exact hnl (congrArg Prod.fst e2).symm
    c0 := cell_of_block hn 0
    c1 := cell_of_block hn 1 }

theorem heap_mid3 (w : World) (a b c : Obj) : (((w.alloc a).alloc b).alloc c).heap[w.heap.size + 1]? = some b := ((Kept.refl [] ((w.alloc a).alloc b)).alloc c).heap (heap_new2 w a b) (by simp)
theorem heap_new3 (w : World) (a b c : Obj) : (((w.alloc a).alloc b).alloc c).heap[w.heap.size + 1 + 1]? = some c := by
  have := heap_alloc_new ((w.alloc a).alloc b) c
  rw [show ((w.alloc a).alloc b).heap.size = w.heap.size + 1 + 1 by simp] at this
  exact this

/-- At nb lies an array comprehension whose body, levels and close fodder read as these. -/
def ARd (w : World) (base nb lb : Nat) (zb : List ZE) (ws : List SE) (zc : List ZE) : Prop :=
  ∃ P Q v l, ACN w base nb lb ws.length P Q v l ∧ Sn P l ws.length ws ∧ codes (l (ws.length, 1)) = zb ∧ codes (l (ws.length, 0)) = zc ∧ (∀ x, acI P ws.length x → GoodL (codes (l x)) ∧ (l x).length ≤ 1048577) ∧ ws.length ≤ 1048576 ∧ base ≤ w.heap.size
theorem ARd.kept {w w' : World} {base nb lb : Nat} {zb : List ZE} {ws : List SE} {zc : List ZE} (h : ARd w base nb lb zb ws zc) (q : Kept [] w w') : ARd w' base nb lb zb ws zc := by
  obtain ⟨P, Q, v, l, h1, h2, h3, h4, h5, h6, h7⟩ := h
  exact ⟨P, Q, v, l, h1.kept q, h2, h3, h4, h5, h6, Nat.le_trans h7 q.size⟩

theorem ARd.equals {w : World} {base nb lb : Nat} {zb : List ZE} {ws : List SE} {zc : List ZE} (h : ARd w base nb lb zb ws zc) (a : Option Addr) (n cap : Nat) (hr : RdS w a n cap ws) :
    Calls Tryz.prog 21 #[.pointer (some ⟨nb, 2, none⟩), .slice a n cap] w (Bl true w) := by
  obtain ⟨P, Q, v, l, h1, h2, h3, h4, h5, h6, h7⟩ := h
  obtain rfl := hr.len
  have hp := h1.pos
  have ho : P.out ws.length = .pointer (some ⟨nb, 2, none⟩) := by unfold Pl.out; rw [if_neg (by omega), h1.b, h1.o]
  exact zzSpecEquals_same w base ws.length P v l h1.ch (h1.chf (fun x hx => kinds_of_good (h5 x hx).1)) (fun x hx => (h5 x (Or.inl hx)).2) a cap ws hr h2 h6 _ ho
theorem ARd.body {w : World} {base nb lb : Nat} {zb : List ZE} {ws : List SE} {zc : List ZE} (h : ARd w base nb lb zb ws zc) : ∃ a n c, w.cell? ⟨lb, 0, none⟩ = some (.slice a n c) ∧ ∀ w', Kept [] w w' → Calls Tryz.prog 18 #[.slice a n c] w' (Codes zb w') := by
  obtain ⟨P, Q, v, l, h1, h2, h3, h4, h5, h6, h7⟩ := h
  have f := h1.fam.fod (ws.length, 1) (Or.inr (Or.inr rfl))
  obtain ⟨a, n, c, hv⟩ := f.isSlice
  have hc := h1.cb
  rw [hv] at hc f
  refine ⟨a, n, c, hc, fun w' q => ?_⟩
  have g := h5 (ws.length, 1) (Or.inr (Or.inr rfl))
  have := zzToEls_any w' base _ _ (f.kept q (by simp)) (kinds_of_good g.1) g.2
  rwa [h3] at this
theorem ARd.close {w : World} {base nb lb : Nat} {zb : List ZE} {ws : List SE} {zc : List ZE} (h : ARd w base nb lb zb ws zc) : ∃ a n c, w.cell? ⟨nb, 9, none⟩ = some (.slice a n c) ∧ ∀ w', Kept [] w w' → Calls Tryz.prog 18 #[.slice a n c] w' (Codes zc w') := by
  obtain ⟨P, Q, v, l, h1, h2, h3, h4, h5, h6, h7⟩ := h
  have f := h1.fam.fod (ws.length, 0) (Or.inr (Or.inl rfl))
  obtain ⟨a, n, c, hv⟩ := f.isSlice
  have hc := h1.cc
  rw [hv] at hc f
  refine ⟨a, n, c, hc, fun w' q => ?_⟩
  have g := h5 (ws.length, 0) (Or.inr (Or.inl rfl))
  have := zzToEls_any w' base _ _ (f.kept q (by simp)) (kinds_of_good g.1) g.2
  rwa [h4] at this

def arE (zb : List ZE) (ws : List SE) (zc : List ZE) : Bool := hasNL zb || specsNL ws || hasNL zc
/-- The node that was built. -/
theorem ard_of {w3 w4 w5 w6 : World} {e : Ending} {ss : List SE} {zb zc : List ZE} {u1 u2 : Value} {m1 m2 : List FE} (k34 : Kept [] w3 w4) (f1 : Fod w4 w3.heap.size u1 m1) (c1 : codes m1 = zb) (hch : ChainOf ss w4 e w5) (k56 : Kept [] w5 w6) (f2 : Fod w6 w5.heap.size u2 m2) (c2 : codes m2 = zc)
    (hpos : 0 < ss.length) (hlen : ss.length ≤ 1048576) (hg : ∀ s ∈ ss, GoodSp s) (hs : ∀ s ∈ ss, SmallE s) (gb : GoodL zb) (gc : GoodL zc) (hzb : zb.length ≤ 1048576) (hzc : zc.length ≤ 1048576) :
    ∃ va vn vc ca m cc po x, e = .returned (.agg (lvlOf va vn vc ca m cc po x)) ∧ Kept [] w4 w5 ∧ ∀ w7 nb lb, Kept [] w6 w7 → w6.heap.size ≤ nb → w6.heap.size ≤ lb →
      (∃ rest : List Value, w7.heap[nb]? = some (.cells (nulI lb :: .slice none 0 0 :: .slice va vn vc :: .slice none 0 0 :: .slice ca m cc :: .pointer po :: nulI x :: .string ⟨#[120]⟩ :: .slice none 0 0 :: u2 :: rest).toArray 255 (0, 0))) →
      (∃ rest : List Value, w7.heap[lb]? = some (.cells (u1 :: rest).toArray 106 (0, 0))) → ARd w7 w3.heap.size nb lb zb ss zc := by
  obtain ⟨P, v, l, rfl, hr, hn, k45⟩ := hch
  obtain ⟨va, vn, vc, po, hv0, hpo0, e⟩ := lvl_of hr (ss.length - 1) (by omega)
  refine ⟨va, vn, vc, _, _, _, po, _, by rw [e], k45, fun w7 nb lb q hnb hlb hn1 hn2 => ?_⟩
  obtain ⟨n, hnn⟩ : ∃ n, ss.length = n + 1 := ⟨ss.length - 1, by omega⟩
  have hn0 : ss.length - 1 = n := by omega
  rw [hn0] at hv0 hpo0 hn1
  obtain ⟨rest, hn1⟩ := hn1
  obtain ⟨rest2, hn2⟩ := hn2
  rw [← hv0, ← hpo0] at hn1
  have s34 := k34.size
  have s45 := k45.size
  have s56 := k56.size
  have hr6 : Raw w6 w3.heap.size (n + 1) P v l := by
    have := (hr.kept k56).low s34
    rwa [hnn] at this
  have ownc : ∀ x, P.In (n + 1) x → ∀ g, (v x).ownBlock = some g → w4.heap.size ≤ g ∧ g < w5.heap.size := fun x hx g hg => World.ownsRow.lt (hr.fod x (by rw [hnn]; exact hx)) g hg
  have own1 : ∀ g, u1.ownBlock = some g → g < w4.heap.size := fun g hg => (World.ownsRow.lt f1 g hg).2
  have own2 : ∀ g, u2.ownBlock = some g → w5.heap.size ≤ g := fun g hg => (World.ownsRow.lt f2 g hg).1
  have k46 := k45.trans k56
  have hac := acn_of hr6 q (by omega) (f1.kept k46 (by simp)) f2 (Nat.le_refl _) (by omega)
    (fun x hx g hg e => by have := ownc x hx g hg; have := own1 g e; omega) (fun x hx g hg e => by have := ownc x hx g hg; have := own2 g e; omega) (fun g hg e => by have := own1 g hg; have := own2 g e; omega)
    hn1 hn2 hnb hlb (m1 := m1) (m2 := m2)
  refine ⟨P.to n nb 2, _, _, _, by rw [hnn]; exact hac, ?_, by rw [hnn, acL_b]; exact c1, by rw [hnn, acL_c]; exact c2, ?_, hlen, by have := q.size; omega⟩
  · intro i s hi hss
    obtain ⟨e1, e2, e3⟩ := hn i s hi hss
    refine ⟨e1, ?_, fun j d hd => ?_⟩
    · rw [acL_in (P := P) (show P.In (n + 1) (i, 0) from ⟨by rw [← hnn]; exact hi, Nat.zero_le _⟩)]; exact e2
    · have hj : j < s.ifs.length := by
        by_cases hj : j < s.ifs.length
        · exact hj
        · rw [List.getElem?_eq_none (by omega)] at hd; cases hd
      have hjm : j + 1 ≤ P.m i := by omega
      rw [acL_in (P := P) (show P.In (n + 1) (i, j + 1) from ⟨by rw [← hnn]; exact hi, hjm⟩)]
      exact e3 j d hd
  · intro x hx
    have len : ∀ {m : List FE} {d : List ZE}, codes m = d → m.length = d.length := fun e => by rw [← e]; simp [codes]
    rw [hnn] at hx
    rcases hx with hx | rfl | rfl
    · have hxn : P.In ss.length x := by rw [hnn]; exact hx
      rw [acL_in (P := P) hx]
      obtain ⟨a, b⟩ := hn.at hg hs x hxn
      exact ⟨a, by omega⟩
    · rw [acL_c, c2, len c2]; exact ⟨gc, by omega⟩
    · rw [acL_b, c1, len c1]; exact ⟨gb, by omega⟩
end Go.Proofs.YtgdipdbmllkckaaGreatFmt
