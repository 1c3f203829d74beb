/- n008_22, the plain law: lengths, blank lines and comments of laid and of joined fodders. -/
import Derived.Test.YtaedhbpfmjiheaaFmtZs
namespace Go.Proofs.YtaedhbpfmjiheaaFmt
open Go.ChangeShapes Go.WideShapes Go.ChangeAt Go.RowKit

theorem El.b01 {k : Int} {x : FE} (h : El k x) : 0 ≤ x.b ∧ x.b ≤ 1 := by
  by_cases h1 : k = 1
  · obtain ⟨_, _, e⟩ := h.k1 h1; omega
  by_cases h2 : k = 2
  · obtain ⟨_, _, e⟩ := h.k2 h2; omega
  obtain ⟨_, _, e⟩ := h.k0 h1 h2; omega
theorem El.kind {k : Int} {x : FE} (h : El k x) (h0 : 0 ≤ k ∧ k ≤ 2) : x.k = k := by
  by_cases h1 : k = 1
  · obtain ⟨_, e, _⟩ := h.k1 h1; omega
  by_cases h2 : k = 2
  · obtain ⟨_, e, _⟩ := h.k2 h2; omega
  obtain ⟨_, e, _⟩ := h.k0 h1 h2; omega
theorem El.bl {k : Int} {x : FE} (h : El k x) : x.b = if k = 1 then 0 else 1 := by
  by_cases h1 : k = 1
  · rw [if_pos h1]; exact (h.k1 h1).2.2
  rw [if_neg h1]
  by_cases h2 : k = 2
  · exact (h.k2 h2).2.2
  exact (h.k0 h1 h2).2.2
theorem El.cm {k : Int} {x : FE} (h : El k x) (h0 : 0 ≤ k ∧ k ≤ 2) : (if 0 < x.cl then 1 else 0) = if k = 0 then 0 else 1 := by
  by_cases h1 : k = 1
  · rw [(h.k1 h1).1]; subst h1; rfl
  by_cases h2 : k = 2
  · rw [(h.k2 h2).1]; subst h2; rfl
  rw [(h.k0 h1 h2).1]
  obtain rfl : k = 0 := by omega
  rfl
theorem sumB_app (a b : List FE) : sumB (a ++ b) = sumB a + sumB b := by simp [sumB]
theorem cntC_app (a b : List FE) : cntC (a ++ b) = cntC a + cntC b := by simp [cntC]
theorem sumB_cons (x : FE) (b : List FE) : sumB (x :: b) = x.b + sumB b := by simp [sumB]
theorem cntC_cons (x : FE) (b : List FE) : cntC (x :: b) = (if 0 < x.cl then 1 else 0) + cntC b := by
  unfold cntC
  rw [List.countP_cons]
  by_cases h : 0 < x.cl <;> simp [h]
  omega
theorem plains {l : List FE} (h : ∀ x ∈ l, El 0 x) : sumB l = l.length ∧ cntC l = 0 := by
  induction l with
  | nil => exact ⟨rfl, rfl⟩
  | cons x l ih =>
    obtain ⟨h1, h2⟩ := ih (fun y hy => h y (List.mem_cons_of_mem _ hy))
    have hx := h x (List.mem_cons_self ..)
    have b := hx.bl
    have c := hx.cm (by omega)
    rw [if_neg (by omega)] at b
    rw [if_pos rfl] at c
    rw [sumB_cons, cntC_cons, h1, h2, b, c, List.length_cons]
    exact ⟨by omega, rfl⟩
theorem Bu.nil {pos k : Int} {l : List FE} (h : Bu 0 pos k l) : l = [] := List.eq_nil_of_length_eq_zero h.len
theorem Bu.at {n p : Nat} {k : Int} {l : List FE} (h : Bu n (p : Int) k l) (hp : p < n) : ∃ a x b, l = a ++ x :: b ∧ a.length = p ∧ b.length = n - p - 1 ∧ El k x ∧ (∀ y ∈ a, El 0 y) ∧ ∀ y ∈ b, El 0 y := by
  have hl := h.len
  have hpl : p < l.length := by omega
  have hx := h.el p _ (List.getElem?_eq_getElem hpl)
  rw [if_pos rfl] at hx
  refine ⟨l.take p, l[p], l.drop (p + 1), ?_, by rw [List.length_take]; omega, by rw [List.length_drop]; omega, hx, fun y hy => ?_, fun y hy => ?_⟩
  · rw [List.getElem_cons_drop, List.take_append_drop]
  · obtain ⟨j, e⟩ := List.mem_iff_getElem?.1 hy
    have hj : j < p := by
      have := (List.getElem?_eq_some_iff.1 e).1
      rw [List.length_take] at this
      omega
    rw [List.getElem?_take, if_pos hj] at e
    have := h.el j y e
    rwa [if_neg (by omega)] at this
  · obtain ⟨j, e⟩ := List.mem_iff_getElem?.1 hy
    rw [List.getElem?_drop] at e
    have := h.el _ y e
    rwa [if_neg (by omega)] at this
theorem Bu.sums {n : Nat} {pos k : Int} {l : List FE} (h : Bu n pos k l) (hp : 0 < n → ∃ p : Nat, p < n ∧ pos = (p : Int)) (hk : 0 ≤ k ∧ k ≤ 2) : sumB l = bB n k ∧ (cntC l : Int) = bC n k := by
  by_cases h0 : n = 0
  · subst h0
    rw [h.nil]
    unfold bB bC
    rw [if_neg (by omega), if_neg (by omega)]
    exact ⟨rfl, rfl⟩
  · obtain ⟨p, hpn, rfl⟩ := hp (by omega)
    obtain ⟨a, x, b, rfl, ha, hb, hx, h1, h2⟩ := h.at hpn
    obtain ⟨s1, c1⟩ := plains h1
    obtain ⟨s2, c2⟩ := plains h2
    have e1 := hx.bl
    have e2 := hx.cm hk
    rw [sumB_app, sumB_cons, cntC_app, cntC_cons, s1, s2, c1, c2, e1, e2, ha, hb]
    unfold bB bC
    constructor
    · by_cases h1 : k = 1
      · rw [if_pos h1, if_pos ⟨by omega, h1⟩]; omega
      · rw [if_neg h1, if_neg (by omega)]; omega
    · by_cases h1 : k = 0
      · rw [if_pos h1, if_neg (by omega)]; rfl
      · rw [if_neg h1, if_pos ⟨by omega, h1⟩]; rfl
theorem Bu.small {n : Nat} {pos k : Int} {l : List FE} (h : Bu n pos k l) : Small l := fun x hx => by
  obtain ⟨j, e⟩ := List.mem_iff_getElem?.1 hx
  have := (h.el j x e).b01
  omega

/-- The joined fodder. -/
theorem joined {n m : Nat} {kx ky : Int} {a b l' : List FE} (ha : Bu n ((n : Int) - 1) kx a) (hb : Bu m 0 ky b) (hc : Conc a b l') (hx : 0 ≤ kx ∧ kx ≤ 2) (hy : 0 ≤ ky ∧ ky ≤ 2) :
    (l'.length : Int) = cL n m kx ky ∧ sumB l' = bB n kx + bB m ky ∧ (cntC l' : Int) = bC n kx + bC m ky ∧ Small l' := by
  have sa := ha.sums (fun h => ⟨n - 1, by omega, by omega⟩) hx
  have sb := hb.sums (fun h => ⟨0, h, rfl⟩) hy
  have sma := ha.small
  have smb := hb.small
  have la := ha.len
  have lb := hb.len
  rcases hc with ⟨rfl, rfl⟩ | ⟨rfl, rfl⟩ | ⟨x, t, m', hne, rfl, hst, rfl⟩
  · obtain rfl : n = 0 := by simpa using la.symm
    refine ⟨?_, ?_, ?_, smb⟩
    · unfold cL; rw [if_pos (Or.inl rfl), lb]; omega
    · rw [sb.1]; unfold bB; rw [if_neg (by omega : ¬ ((0 : Nat) < 0 ∧ kx = 1))]; omega
    · rw [sb.2]; unfold bC; rw [if_neg (by omega : ¬ ((0 : Nat) < 0 ∧ kx ≠ 0))]; omega
  · obtain rfl : m = 0 := by simpa using lb.symm
    refine ⟨?_, ?_, ?_, sma⟩
    · unfold cL; rw [if_pos (Or.inr rfl), la]; omega
    · rw [sa.1]; unfold bB; rw [if_neg (by omega : ¬ ((0 : Nat) < 0 ∧ ky = 1))]; omega
    · rw [sa.2]; unfold bC; rw [if_neg (by omega : ¬ ((0 : Nat) < 0 ∧ ky ≠ 0))]; omega
  · have hn : 0 < n := by
      have := List.length_pos_iff.2 hne
      omega
    have hm : 0 < m := by rw [← lb]; simp
    have hn1 : ((n : Int) - 1) = ((n - 1 : Nat) : Int) := by omega
    rw [hn1] at ha
    obtain ⟨a0, z, bb, rfl, ha0, hbb, hz, -, -⟩ := ha.at (by omega)
    obtain rfl : bb = [] := List.eq_nil_of_length_eq_zero (by omega)
    have hxE : El ky x := by
      have := hb.el 0 x rfl
      simpa using this
    have kz := hz.kind hx
    have kxx := hxE.kind hy
    have zb := hz.b01
    have xb := hxE.b01
    have hcl : clean (a0 ++ [z]) = (z.k != 1) := by unfold clean; simp
    have smt : Small t := fun y hy => smb y (List.mem_cons_of_mem _ hy)
    have sm0 : Small a0 := fun y hy => sma y (List.mem_append_left _ hy)
    have lt : t.length + 1 = m := by simpa using lb
    rw [sumB_cons, cntC_cons] at sb
    rw [sumB_app, sumB_cons, cntC_app, cntC_cons] at sa
    have sn : sumB [] = 0 := rfl
    have cn : cntC [] = 0 := rfl
    rw [sn, cn] at sa
    have hcLn : ¬ (n = 0 ∨ m = 0) := by omega
    rcases hst with ⟨h1, h2, n', y, h3, h4, rfl⟩ | ⟨h1, h2, ca, rfl⟩ | ⟨h1, h2, rfl⟩
    · have hn' : n' = a0.length := by simp at h3; omega
      subst hn'
      obtain rfl : z = y := by simpa using h4
      have hw : wrap64 (z.b + x.b) = z.b + x.b := by unfold wrap64; omega
      rw [hcl] at h1
      have hk1 : kx ≠ 1 := by rw [kz] at h1; simpa using h1
      have hky : ky = 0 := by omega
      have hset : (a0 ++ [z]).set a0.length { z with b := wrap64 (z.b + x.b), i := x.i } = a0 ++ [{ z with b := z.b + x.b, i := x.i }] := by
        rw [hw, List.set_append_right _ _ (Nat.le_refl _), Nat.sub_self]
        rfl
      rw [hset]
      have xc := hxE.cm hy
      rw [if_pos hky] at xc
      refine ⟨?_, ?_, ?_, ?_⟩
      · unfold cL
        rw [if_neg hcLn, if_pos ⟨hk1, hky⟩]
        simp only [List.length_append, List.length_cons, List.length_nil]
        omega
      · rw [sumB_app, sumB_app, sumB_cons, sn, ← sa.1, ← sb.1]
        dsimp only
        omega
      · rw [cntC_app, cntC_app, cntC_cons, cn, ← sa.2, ← sb.2, xc]
        dsimp only
        omega
      · intro y hy'
        rw [List.mem_append, List.mem_append] at hy'
        rcases hy' with (hy' | hy') | hy'
        · exact sm0 y hy'
        · obtain rfl := List.mem_singleton.1 hy'
          dsimp only
          omega
        · exact smt y hy'
    · rw [hcl] at h1
      have hk1 : kx = 1 := by rw [kz] at h1; simpa using h1
      have hky : ky = 2 := by omega
      refine ⟨?_, ?_, ?_, ?_⟩
      · unfold cL
        rw [if_neg hcLn, if_neg (by omega), if_pos ⟨hk1, hky⟩]
        simp only [List.length_append, List.length_cons, List.length_nil]
        omega
      · rw [sumB_app, sumB_app, sumB_app, sumB_cons, sumB_cons, sumB_cons, sn, ← sa.1, ← sb.1]
        dsimp only
        omega
      · rw [cntC_app, cntC_app, cntC_app, cntC_cons, cntC_cons, cntC_cons, cn, ← sa.2, ← sb.2]
        dsimp only
        rw [if_neg (by omega : ¬ (0 : Nat) < 0)]
        omega
      · intro y hy'
        rw [List.mem_append, List.mem_append] at hy'
        rcases hy' with (hy' | hy') | hy'
        · exact sma y hy'
        · simp only [List.mem_cons, List.not_mem_nil, or_false] at hy'
          rcases hy' with rfl | rfl
          · dsimp only; omega
          · omega
        · exact smt y hy'
    · rw [hcl, kz, kxx] at h1 h2
      refine ⟨?_, ?_, ?_, ?_⟩
      · unfold cL
        rw [if_neg hcLn]
        have g1 : ¬ (kx ≠ 1 ∧ ky = 0) := fun ⟨p, q⟩ => by subst q; simp [p] at h1
        have g2 : ¬ (kx = 1 ∧ ky = 2) := fun ⟨p, q⟩ => by subst p q; simp at h2
        rw [if_neg g1, if_neg g2]
        simp only [List.length_append, List.length_cons, List.length_nil]
        omega
      · rw [sumB_app, sumB_app, sumB_app, sumB_cons, sumB_cons, sn, ← sa.1, ← sb.1]
        omega
      · rw [cntC_app, cntC_app, cntC_app, cntC_cons, cntC_cons, cn, ← sa.2, ← sb.2]
        omega
      · intro y hy'
        rw [List.mem_append, List.mem_append] at hy'
        rcases hy' with (hy' | hy') | hy'
        · exact sma y hy'
        · obtain rfl := List.mem_singleton.1 hy'
          omega
        · exact smt y hy'
end Go.Proofs.YtaedhbpfmjiheaaFmt
