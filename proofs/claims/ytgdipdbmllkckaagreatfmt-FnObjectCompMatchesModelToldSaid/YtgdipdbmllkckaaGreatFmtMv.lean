/- A chain whose last level has been moved into a variable; what is left of it when its fodders have been ended. -/
import Derived.Test.YtgdipdbmllkckaaGreatFmtSnS
namespace Go.Proofs.YtgdipdbmllkckaaGreatFmt
open Go.ChangeShapes Go.WideShapes Go.ChangeAt Go.RowKit

def Pl.mv (P : Pl) (k g : Nat) : Pl := { P with b := putI P.b k g }
theorem Raw.move {w w' : World} {base n g : Nat} {P : Pl} {v : Nat × Nat → Value} {l : Nat × Nat → List FE} (h : Raw w base (n + 1) P v l) (hb : base ≤ w.heap.size) (q : Kept [] w w') {a : Array Value} (ha : P.lvl (v (n, 0)) n = .agg a) (hg : w'.heap[g]? = some (.cells a 50 (0, 0))) (hgw : w.heap.size ≤ g) :
    Raw w' base (n + 1) (P.mv n g) v l := by
  have k := h.kept q
  have pb : ∀ i, i < n → (P.mv n g).b i = P.b i := fun i hi => putI_other _ _ _ (by omega)
  have nb : (P.mv n g).b n = g := putI_same _ _ _
  have pout : ∀ i, i ≤ n → (P.mv n g).out i = P.out i := fun i hi => by
    unfold Pl.out
    by_cases h0 : i = 0
    · rw [if_pos h0, if_pos h0]
    · rw [if_neg h0, if_neg h0, pb (i - 1) (by omega)]; rfl
  have blt : ∀ i, i < n → P.b i < w.heap.size := fun i hi => (Array.getElem?_eq_some_iff.1 (h.lb i (by omega))).1
  exact {
    lb := fun i hi => by
      by_cases hin : i < n
      · rw [pb i hin, pout i (by omega)]
        exact k.lb i (by omega)
      · obtain rfl : i = n := by omega
        rw [nb, pout i (Nat.le_refl _)]
        rw [hg]
        unfold Pl.lvl at ha
        injection ha with ha
        rw [← ha]
        rfl
    o := h.o
    ca := h.ca
    ml := h.ml
    cbt := k.cbt
    ce := k.ce
    xe := k.xe
    xi := k.xi
    fod := k.fod
    bi := fun i j hij hj => by
      rw [pb i (by omega)]
      by_cases hjn : j < n
      · rw [pb j hjn]; exact h.bi i j hij (by omega)
      · obtain rfl : j = n := by omega
        rw [nb]
        have := blt i hij
        omega
    cbi := h.cbi
    dj := h.dj
    bs := fun x ⟨i, hi, hx⟩ => by
      by_cases hin : i < n
      · rw [pb i hin] at hx
        exact h.bs x ⟨i, hi, hx⟩
      · obtain rfl : i = n := by omega
        rw [nb] at hx
        rcases hx with rfl | hx
        · omega
        · exact h.bs x ⟨i, hi, Or.inr hx⟩ }

/-- At S0 lies the last level of a chain that reads as ws. -/
def Spc (w : World) (S0 base : Nat) (ws : List SE) : Prop :=
  ∃ P v l, 0 < ws.length ∧ P.b (ws.length - 1) = S0 ∧ P.o (ws.length - 1) = 0 ∧ Chn w ws.length P ∧ FamI w base (P.In ws.length) P.pos (P.Q ws.length) v l ∧ Frees (P.In ws.length) P.pos ws.length P ∧ Sn P l ws.length ws ∧
    (∀ x, P.In ws.length x → GoodL (codes (l x)) ∧ (l x).length ≤ 1048577) ∧ base ≤ w.heap.size ∧ ws.length ≤ 1048576
theorem Spc.kept {w w' : World} {S0 base : Nat} {ws : List SE} (h : Spc w S0 base ws) (q : Kept [] w w') : Spc w' S0 base ws := by
  obtain ⟨P, v, l, h1, h2, h3, h4, h5, h6, h7, h8, h9, h10⟩ := h
  exact ⟨P, v, l, h1, h2, h3, h4.kept q, h5.kept q, h6, h7, h8, Nat.le_trans h9 q.size, h10⟩
theorem spc_chf {w : World} {base n : Nat} {P : Pl} {v : Nat × Nat → Value} {l : Nat × Nat → List FE} (h : FamI w base (P.In n) P.pos (P.Q n) v l) (hg : ∀ x, P.In n x → GoodL (codes (l x)) ∧ (l x).length ≤ 1048577) : ChF w base n P v l :=
  ⟨h.c, h.fod, fun x hx => kinds_of_good (hg x hx).1⟩
theorem spc_out {P : Pl} {n S0 : Nat} (h1 : 0 < n) (h2 : P.b (n - 1) = S0) (h3 : P.o (n - 1) = 0) : P.out n = .pointer (some ⟨S0, 0, none⟩) := by
  unfold Pl.out; rw [if_neg (by omega), h2, h3]

theorem Spc.equals {w : World} {S0 base : Nat} {ws : List SE} (h : Spc w S0 base ws) (a : Option Addr) (n cap : Nat) (hr : RdS w a n cap ws) :
    Calls Tryz.prog 21 #[.pointer (some ⟨S0, 0, none⟩), .slice a n cap] w (Bl true w) := by
  obtain ⟨P, v, l, h1, h2, h3, h4, h5, h6, h7, h8, h9, h10⟩ := h
  obtain rfl := hr.len
  exact zzSpecEquals_same w base ws.length P v l h4 (spc_chf h5 h8) (fun x hx => (h8 x hx).2) a cap ws hr h7 h10 _ (spc_out h1 h2 h3)

theorem snaps_eq {P : Pl} {l : Nat × Nat → List FE} {ws : List SE} (h : Sn P l ws.length ws) : snaps P l ws.length = ws := by
  apply List.ext_getElem?
  intro i
  unfold snaps
  by_cases hi : i < ws.length
  · rw [List.getElem?_map, List.getElem?_range hi, List.getElem?_eq_getElem hi]
    obtain ⟨a, b, c⟩ := h i _ hi (List.getElem?_eq_getElem hi)
    simp only [Option.map_some, Option.some.injEq]
    generalize ws[i] = s at a b c
    obtain ⟨f, ifs⟩ := s
    unfold snapSE
    dsimp only at a b c
    rw [b, a]
    congr 1
    apply List.ext_getElem?
    intro j
    by_cases hj : j < ifs.length
    · rw [List.getElem?_map, List.getElem?_range hj, List.getElem?_eq_getElem hj]
      simp only [Option.map_some, Option.some.injEq]
      exact c j _ (List.getElem?_eq_getElem hj)
    · rw [List.getElem?_eq_none (by simp; omega), List.getElem?_eq_none (by omega)]
  · rw [List.getElem?_eq_none (by simp; omega), List.getElem?_eq_none (by omega)]

theorem Sn.ens {P : Pl} {l l' : Nat × Nat → List FE} {ss : List SE} (h : Sn P l ss.length ss) (he : ∀ x, P.In ss.length x → Ens (l x) (l' x)) : Sn P l' (ss.map ensSp).length (ss.map ensSp) := by
  intro i s hi hs
  rw [List.length_map] at hi
  rw [List.getElem?_map, List.getElem?_eq_getElem hi] at hs
  obtain rfl : ensSp ss[i] = s := by simpa using hs
  obtain ⟨a, b, c⟩ := h i _ hi (List.getElem?_eq_getElem hi)
  refine ⟨by simp [ensSp, a], ?_, fun j d hd => ?_⟩
  · rw [(he (i, 0) ⟨hi, Nat.zero_le _⟩).cod, b]; rfl
  · simp only [ensSp, List.getElem?_map] at hd
    have hj : j < ss[i].ifs.length := by
      by_cases hj : j < ss[i].ifs.length
      · exact hj
      · rw [List.getElem?_eq_none (by omega)] at hd; cases hd
    rw [List.getElem?_eq_getElem hj] at hd
    have hjm : j + 1 ≤ P.m i := by omega
    rw [(he (i, j + 1) ⟨hi, hjm⟩).cod, c j _ (List.getElem?_eq_getElem hj)]
    simpa using hd

/-- The chain that was built, its last level in a variable. -/
theorem spc_of {w w' : World} {e : Ending} {ss : List SE} (h : ChainOf ss w e w') (hpos : 0 < ss.length) (hlen : ss.length ≤ 1048576) (hg : ∀ s ∈ ss, GoodSp s) (hs : ∀ s ∈ ss, SmallE s) :
    ∃ va vn vc ca m cc po x, e = .returned (.agg (lvlOf va vn vc ca m cc po x)) ∧ Kept [] w w' ∧ ∀ w2 S0, Kept [] w' w2 → w2.heap[S0]? = some (.cells (lvlOf va vn vc ca m cc po x) 50 (0, 0)) → w'.heap.size ≤ S0 → Spc w2 S0 w.heap.size ss := by
  obtain ⟨P, v, l, rfl, hr, hn, k⟩ := h
  obtain ⟨va, vn, vc, po, _, _, e⟩ := lvl_of hr (ss.length - 1) (by omega)
  refine ⟨va, vn, vc, _, _, _, po, _, by rw [e], k, fun w2 S0 q hg2 hS => ?_⟩
  obtain ⟨n, hn1⟩ : ∃ n, ss.length = n + 1 := ⟨ss.length - 1, by omega⟩
  have hn0 : ss.length - 1 = n := by omega
  rw [hn0] at e hg2
  have hr' : Raw w' w.heap.size (n + 1) P v l := by rw [← hn1]; exact hr
  have hm := hr'.move k.size q e hg2 hS
  refine ⟨P.mv n S0, v, l, hpos, by rw [hn0]; exact putI_same _ _ _, hr.o _, by rw [hn1]; exact hm.chn, by rw [hn1]; exact hm.fam, by rw [hn1]; exact hm.frees, hn, fun x hx => ?_, Nat.le_trans k.size q.size, hlen⟩
  obtain ⟨a, b⟩ := hn.at hg hs x hx
  exact ⟨a, by omega⟩
end Go.Proofs.YtgdipdbmllkckaaGreatFmt
