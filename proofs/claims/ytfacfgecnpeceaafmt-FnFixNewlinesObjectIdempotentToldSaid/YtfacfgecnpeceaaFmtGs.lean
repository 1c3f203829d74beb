/- The object that n008_124's zzBuildObject hands over, as a family of fodders. -/
import Derived.Test.YtfacfgecnpeceaaFmtGr
namespace Go.Proofs.YtfacfgecnpeceaaFmt
open Go.ChangeShapes Go.WideShapes Go.ChangeAt Go.RowKit

def gsOf (fs : List GY) (fb : Nat) : Gs := ⟨fs.length, fb, fs.length, fun i => (fs.getD i default).kd, fun i => (fs.getD i default).y, fun i => (fs.getD i default).d, fun i => (fs.getD i default).idp⟩
def gV (fs : List GY) (u : Value) (x : Nat × Nat) : Value := if x.1 = fs.length then u else (fs.getD x.1 default).val (x.2 == 1)
def gL (fs : List GY) (m : List FE) (x : Nat × Nat) : List FE := if x.1 = fs.length then m else (fs.getD x.1 default).fod (x.2 == 1)
def gQ (fs : List GY) (fb lb ob g : Nat) : Prop := g = fb ∨ g = ob ∨ g = lb ∨ ∃ (i : Nat) (f : GY), fs[i]? = some f ∧ (g = f.d ∨ (f.kd ≠ 1 ∧ g = f.y))
theorem getG {fs : List GY} {i : Nat} (h : i < fs.length) : ∃ f, fs[i]? = some f ∧ fs.getD i default = f := by
  refine ⟨fs[i], List.getElem?_eq_getElem h, ?_⟩
  rw [List.getD_eq_getElem?_getD, List.getElem?_eq_getElem h]
  rfl
/-- Where a fodder lies: the close fodder; a string's own; in the row. -/
theorem gpos (fs : List GY) (fb ob : Nat) (u : Value) (m : List FE) {x : Nat × Nat} (hx : gI (gsOf fs fb) x) :
    (x = (fs.length, 0) ∧ gp (gsOf fs fb) ob x = (ob, 1) ∧ gV fs u x = u ∧ gL fs m x = m) ∨
    ∃ f, fs[x.1]? = some f ∧ x.1 < fs.length ∧ x.2 < 2 ∧ gV fs u x = f.val (x.2 == 1) ∧ gL fs m x = f.fod (x.2 == 1) ∧
      ((f.kd = 3 ∧ x.2 = 0 ∧ gp (gsOf fs fb) ob x = (f.y, 3)) ∨ (f.kd = 3 ∧ x.2 = 1 ∧ gp (gsOf fs fb) ob x = (fb, x.1 * 18 + 3)) ∨ (f.kd ≠ 3 ∧ x.2 = 0 ∧ gp (gsOf fs fb) ob x = (fb, x.1 * 18 + 3)) ∨ (f.kd ≠ 3 ∧ x.2 = 1 ∧ gp (gsOf fs fb) ob x = (fb, x.1 * 18 + 2))) := by
  rcases hx with rfl | ⟨h1, h2⟩
  · refine Or.inl ⟨rfl, gp_c _ _, ?_, ?_⟩
    · unfold gV; exact if_pos rfl
    · unfold gL; exact if_pos rfl
  · right
    have h1' : x.1 < fs.length := h1
    obtain ⟨f, hf, hg⟩ := getG h1'
    refine ⟨f, hf, h1', h2, by unfold gV; rw [if_neg (by omega), hg], by unfold gL; rw [if_neg (by omega), hg], ?_⟩
    have hkd : (gsOf fs fb).kd x.1 = f.kd := by unfold gsOf; dsimp only; rw [hg]
    have hy : (gsOf fs fb).y x.1 = f.y := by unfold gsOf; dsimp only; rw [hg]
    have hfb : (gsOf fs fb).fb = fb := rfl
    have hnf : (gsOf fs fb).nf = fs.length := rfl
    unfold gp
    rw [hkd, hy, hfb, hnf, if_neg (by omega)]
    by_cases hk : f.kd = 3
    · rw [if_pos hk]
      by_cases h0 : x.2 = 0
      · rw [if_pos h0]; exact Or.inl ⟨hk, h0, rfl⟩
      · rw [if_neg h0]; exact Or.inr (Or.inl ⟨hk, by omega, rfl⟩)
    · rw [if_neg hk]
      by_cases h0 : x.2 = 0
      · rw [if_pos h0]; exact Or.inr (Or.inr (Or.inl ⟨hk, h0, rfl⟩))
      · rw [if_neg h0]; exact Or.inr (Or.inr (Or.inr ⟨hk, by omega, rfl⟩))

theorem ob_of {w0 w3 w : World} {B C fb lb ob : Nat} {fs : List GY} (h0 : GRow w0 B C fb lb fs.length fs) (q : Kept [] w0 w3) {u : Value} {m : List FE} (f2 : Fod w3 w0.heap.size u m) (q2 : Kept [] w3 w) (hlen : fs.length ≤ 1048576) (hob : w3.heap.size ≤ ob)
    {rest : List Value} (hn : w.heap[ob]? = some (.cells (.slice (some ⟨fb, 0, none⟩) fs.length fs.length :: u :: rest).toArray 53 (0, 0))) :
    OB w B ob (gsOf fs fb) (gQ fs fb lb ob) (gV fs u) (gL fs m) := by
  have h := (h0.kept q).kept q2
  have s0 := h0.sz
  have s1 := q.size
  have s2 := q2.size
  have hbf := h.bf
  have hbl := h.bl
  have hobl : ob < w.heap.size := (Array.getElem?_eq_some_iff.1 hn).1
  have fu : Fod w w0.heap.size u m := f2.kept q2 (by simp)
  have ult : ∀ g, u.ownBlock = some g → w0.heap.size ≤ g ∧ g < w3.heap.size := fun g hg => World.ownsRow.lt f2 g hg
  have glt : ∀ (i : Nat) f, fs[i]? = some f → ∀ b g, (f.val b).ownBlock = some g → C ≤ g ∧ g < w0.heap.size := fun i f hf b g hg => World.ownsRow.lt ((h0.gf i f hf).fo b) g hg
  have dlt : ∀ (i : Nat) f, fs[i]? = some f → C ≤ f.d ∧ f.d < w0.heap.size := fun i f hf => ⟨(h0.gf i f hf).d.2, (h0.gf i f hf).d.1.lt⟩
  have ylt : ∀ (i : Nat) f, fs[i]? = some f → f.kd ≠ 1 → C ≤ f.y ∧ f.y < w0.heap.size := fun i f hf hk => by
    rcases (h0.gf i f hf).kds with e | e | e
    · exact absurd e hk
    · exact ⟨((h0.gf i f hf).y2 e).2, ((h0.gf i f hf).y2 e).1.lt⟩
    · exact ⟨((h0.gf i f hf).y3 e).2, ((h0.gf i f hf).y3 e).1.lt⟩
  have bit0 : ∀ {n : Nat}, n = 0 → (n == 1) = false := fun e => by subst e; rfl
  have bit1 : ∀ {n : Nat}, n = 1 → (n == 1) = true := fun e => by subst e; rfl
  have fz : ∀ o, o < fs.length * 18 → w.frozen? ⟨fb, o, none⟩ = false := fun o ho => by
    have := (h.th o ho).2
    rwa [Nat.zero_add] at this
  have stv : ∀ i f, fs[i]? = some f → ∀ k, stK (gsOf fs fb) i k → (encG f)[k]? = (stG (gsOf fs fb) i)[k]? := fun i f hf k hk => by
    have hg : fs.getD i default = f := by rw [List.getD_eq_getElem?_getD, hf]; rfl
    obtain ⟨h1, h2, h3⟩ := hk
    unfold stG e1G encG e1Y gsOf
    unfold gsOf at h3
    dsimp only at h3 ⊢
    simp only [hg] at h3 ⊢
    match k, h1, h2 with
    | 0, _, _ => rfl
    | 1, _, _ => rfl
    | 2, _, _ => simp [h3 rfl]
    | 4, _, _ => rfl
    | 5, _, _ => rfl
    | 6, _, _ => rfl
    | 7, _, _ => rfl
    | 8, _, _ => rfl
    | 9, _, _ => rfl
    | 10, _, _ => rfl
    | 11, _, _ => rfl
    | 12, _, _ => rfl
    | 13, _, _ => rfl
    | 14, _, _ => rfl
    | 15, _, _ => rfl
    | 16, _, _ => rfl
    | 17, _, _ => rfl
    | k + 18, h, _ => exact absurd h (by omega)
  exact {
    fam := {
      c := fun x hx => by
        rcases gpos fs fb ob u m hx with ⟨-, e, e1, -⟩ | ⟨f, hf, hl, hx2, e1, -, hc⟩
        · rw [e, e1]; exact cell_of_block hn 1
        · rw [e1]
          rcases hc with ⟨k, z, e⟩ | ⟨k, z, e⟩ | ⟨k, z, e⟩ | ⟨k, z, e⟩
          · rw [e, bit0 z]; exact ((h.gf _ f hf).y3 k).1.cell.1
          · rw [e, bit1 z]; exact h.cells _ f hf 3 _ (by simp [encG, k, GY.val])
          · rw [e, bit0 z]; exact h.cells _ f hf 3 _ (by simp [encG, k, GY.val])
          · rw [e, bit1 z]; exact h.cells _ f hf 2 _ (by simp [encG, k, GY.val])
      f := fun x hx => by
        rcases gpos fs fb ob u m hx with ⟨-, e, -, -⟩ | ⟨f, hf, hl, hx2, -, -, hc⟩
        · rw [e]; exact frozen_of_block hn 1
        · rcases hc with ⟨k, z, e⟩ | ⟨k, z, e⟩ | ⟨k, z, e⟩ | ⟨k, z, e⟩
          · rw [e]; exact ((h.gf _ f hf).y3 k).1.cell.2
          · rw [e]; exact fz _ (by omega)
          · rw [e]; exact fz _ (by omega)
          · rw [e]; exact fz _ (by omega)
      fod := fun x hx => by
        rcases gpos fs fb ob u m hx with ⟨-, -, e1, e2⟩ | ⟨f, hf, hl, hx2, e1, e2, -⟩
        · rw [e1, e2]; exact fu.low (by omega)
        · rw [e1, e2]; exact ((h.gf _ f hf).fo _).low (by omega)
      inj := fun x z hx hz hne heq => by
        rcases gpos fs fb ob u m hx with ⟨ex, e, -, -⟩ | ⟨f, hf, hl, hx2, -, -, hc⟩ <;> rcases gpos fs fb ob u m hz with ⟨ez, e', -, -⟩ | ⟨f', hf', hl', hx2', -, -, hc'⟩
        · exact hne (ex.trans ez.symm)
        · rw [e] at heq
          rcases hc' with ⟨k, z, e⟩ | ⟨k, z, e⟩ | ⟨k, z, e⟩ | ⟨k, z, e⟩ <;> rw [e] at heq <;> simp only [Prod.mk.injEq] at heq <;> omega
        · rw [e'] at heq
          rcases hc with ⟨k, z, e⟩ | ⟨k, z, e⟩ | ⟨k, z, e⟩ | ⟨k, z, e⟩ <;> rw [e] at heq <;> simp only [Prod.mk.injEq] at heq <;> omega
        · have key : x.1 = z.1 → x.2 = z.2 → False := fun a b => hne (Prod.ext a b)
          have yf : ∀ (i : Nat) g, fs[i]? = some g → g.kd = 3 → g.y ≠ fb := fun i g hg hk e => by have := (ylt i g hg (by omega)).1; omega
          rcases hc with ⟨k, z0, e⟩ | ⟨k, z0, e⟩ | ⟨k, z0, e⟩ | ⟨k, z0, e⟩ <;> rcases hc' with ⟨k', z0', e'⟩ | ⟨k', z0', e'⟩ | ⟨k', z0', e'⟩ | ⟨k', z0', e'⟩ <;> rw [e, e'] at heq <;> simp only [Prod.mk.injEq] at heq
          · have hy := heq.1
            rcases Nat.lt_trichotomy x.1 z.1 with hlt | heq2 | hlt
            · have := h.yi _ _ f f' hf hf' hlt k k'; omega
            · exact key heq2 (by omega)
            · have := h.yi _ _ f' f hf' hf hlt k' k; omega
          · exact yf _ f hf k heq.1
          · exact yf _ f hf k heq.1
          · exact yf _ f hf k heq.1
          · exact yf _ f' hf' k' heq.1.symm
          · exact key (by omega) (by omega)
          · have h1 : x.1 = z.1 := by omega
            rw [h1, hf'] at hf
            obtain rfl : f' = f := by simpa using hf
            exact k' k
          · omega
          · exact yf _ f' hf' k' heq.1.symm
          · have h1 : x.1 = z.1 := by omega
            rw [h1, hf'] at hf
            obtain rfl : f' = f := by simpa using hf
            exact k k'
          · exact key (by omega) (by omega)
          · omega
          · exact yf _ f' hf' k' heq.1.symm
          · omega
          · omega
          · exact key (by omega) (by omega)
      dj := fun x z hx hz hne g hg => by
        rcases gpos fs fb ob u m hx with ⟨ex, -, e1, -⟩ | ⟨f, hf, hl, hx2, e1, -, -⟩ <;> rcases gpos fs fb ob u m hz with ⟨ez, -, e1', -⟩ | ⟨f', hf', hl', hx2', e1', -, -⟩
        · exact absurd (ex.trans ez.symm) hne
        · rw [e1] at hg
          rw [e1']
          intro e
          have := ult g hg
          have := glt _ f' hf' _ g e
          omega
        · rw [e1] at hg
          rw [e1']
          intro e
          have := ult g e
          have := glt _ f hf _ g hg
          omega
        · rw [e1] at hg
          rw [e1']
          by_cases hij : x.1 = z.1
          · rw [hij, hf'] at hf
            obtain rfl : f' = f := by simpa using hf
            have hxz : x.2 ≠ z.2 := fun e => hne (Prod.ext hij e)
            by_cases h0 : x.2 = 0
            · rw [bit0 h0] at hg
              rw [bit1 (by omega : z.2 = 1)]
              exact (h.gf _ f' hf').dj g hg
            · rw [bit1 (by omega : x.2 = 1)] at hg
              rw [bit0 (by omega : z.2 = 0)]
              exact fun e => (h.gf _ f' hf').dj g e hg
          · exact h.dj _ _ f f' _ _ hf hf' hij g hg
      q := fun x hx => by
        rcases gpos fs fb ob u m hx with ⟨-, e, -, -⟩ | ⟨f, hf, hl, hx2, -, -, hc⟩
        · rw [e]; exact Or.inr (Or.inl rfl)
        · rcases hc with ⟨k, z, e⟩ | ⟨k, z, e⟩ | ⟨k, z, e⟩ | ⟨k, z, e⟩
          · rw [e]; exact Or.inr (Or.inr (Or.inr ⟨_, f, hf, Or.inr ⟨by omega, rfl⟩⟩))
          · rw [e]; exact Or.inl rfl
          · rw [e]; exact Or.inl rfl
          · rw [e]; exact Or.inl rfl
      lt := fun b hb => by
        rcases hb with rfl | rfl | rfl | ⟨i, f, hf, rfl | ⟨hk, rfl⟩⟩
        · omega
        · exact hobl
        · omega
        · have := dlt i f hf; omega
        · have := ylt i f hf hk; omega
      bs := fun b hb => by
        rcases hb with rfl | rfl | rfl | ⟨i, f, hf, rfl | ⟨hk, rfl⟩⟩
        · omega
        · omega
        · omega
        · have := dlt i f hf; omega
        · have := ylt i f hf hk; omega
      sep := fun x hx g hg hq => by
        have hge : C ≤ g ∧ g < w3.heap.size ∧ ∃ cs, w.heap[g]? = some (.cells cs 87 (0, 0)) := by
          rcases gpos fs fb ob u m hx with ⟨-, -, e1, -⟩ | ⟨f, hf, hl, hx2, e1, -, -⟩
          · rw [e1] at hg
            have := ult g hg
            exact ⟨by omega, by omega, fod_typ fu g hg⟩
          · rw [e1] at hg
            have := glt _ f hf _ g hg
            exact ⟨by omega, by omega, fod_typ ((h.gf _ f hf).fo _) g hg⟩
        obtain ⟨g1, g2, cs, hcs⟩ := hge
        rcases hq with rfl | rfl | rfl | ⟨i, f, hf, rfl | ⟨hk, rfl⟩⟩
        · omega
        · omega
        · omega
        · obtain ⟨c2, hc2⟩ := (h.gf i f hf).d.1.typ
          exact blk_ne hcs hc2 (by decide) rfl
        · rcases (h.gf i f hf).kds with e | e | e
          · exact hk e
          · obtain ⟨c2, hc2⟩ := ((h.gf i f hf).y2 e).1.typ
            exact blk_ne hcs hc2 (by decide) rfl
          · obtain ⟨c2, hc2⟩ := ((h.gf i f hf).y3 e).1.typ
            exact blk_ne hcs hc2 (by decide) rfl }
    c0 := cell_of_block hn 0
    ml := ⟨Nat.le_refl _, by show fs.length ≤ maxLen; unfold maxLen; omega, hlen⟩
    fq := Or.inl rfl
    oq := Or.inr (Or.inl rfl)
    kds := fun i hi => by
      obtain ⟨f, hf, hg⟩ := getG (fs := fs) (i := i) hi
      have := (h.gf i f hf).kds
      unfold gsOf
      dsimp only
      rw [hg]
      exact this
    st := fun i k hi hk => by
      obtain ⟨f, hf, hg⟩ := getG (fs := fs) (i := i) hi
      rw [← stv i f hf k hk]
      have hlt : k < (encG f).length := by rw [encG_len]; exact hk.1
      rw [List.getElem?_eq_getElem hlt]
      exact h.cells i f hf k _ (List.getElem?_eq_getElem hlt)
    sf := fun x hx i k hi hk e2 => by
      obtain ⟨k1, k2, k3⟩ := hk
      have efb : (gsOf fs fb).fb = fb := rfl
      rw [efb] at e2
      rcases gpos fs fb ob u m hx with ⟨-, e, -, -⟩ | ⟨f, hf, hl, hx2, -, -, hc⟩
      · rw [e] at e2
        simp only [Prod.mk.injEq] at e2
        omega
      · rcases hc with ⟨kd, z, e⟩ | ⟨kd, z, e⟩ | ⟨kd, z, e⟩ | ⟨kd, z, e⟩ <;> rw [e] at e2 <;> simp only [Prod.mk.injEq] at e2
        · have := ylt _ f hf (by omega); omega
        · omega
        · omega
        · have h1 : x.1 = i := by omega
          have h2 : k = 2 := by omega
          have hg : fs.getD i default = f := by rw [List.getD_eq_getElem?_getD, ← h1, hf]; rfl
          have := k3 h2
          unfold gsOf at this
          dsimp only at this
          rw [hg] at this
          exact kd this
    o0 := fun x hx e2 => by
      rcases gpos fs fb ob u m hx with ⟨-, e, -, -⟩ | ⟨f, hf, hl, hx2, -, -, hc⟩
      · rw [e] at e2
        simp only [Prod.mk.injEq] at e2
        omega
      · rcases hc with ⟨kd, z, e⟩ | ⟨kd, z, e⟩ | ⟨kd, z, e⟩ | ⟨kd, z, e⟩ <;> rw [e] at e2 <;> simp only [Prod.mk.injEq] at e2 <;> omega
    dq := fun i hi => by
      obtain ⟨f, hf, hg⟩ := getG (fs := fs) (i := i) hi
      exact Or.inr (Or.inr (Or.inr ⟨i, f, hf, Or.inl (by unfold gsOf; dsimp only; rw [hg])⟩))
    nd := fun i hi => by
      obtain ⟨f, hf, hg⟩ := getG (fs := fs) (i := i) hi
      unfold gsOf
      dsimp only
      rw [hg]
      exact (h.gf i f hf).d.1.at
    dn := fun x hx i hi e2 => by
      obtain ⟨f, hf, hg⟩ := getG (fs := fs) (i := i) hi
      have hd := dlt i f hf
      have e0 : (gsOf fs fb).d i = f.d := by unfold gsOf; dsimp only; rw [hg]
      rw [e0] at e2
      rcases gpos fs fb ob u m hx with ⟨-, e, -, -⟩ | ⟨f', hf', hl, hx2, -, -, hc⟩
      · rw [e] at e2; dsimp only at e2; omega
      · rcases hc with ⟨kd, z, e⟩ | ⟨kd, z, e⟩ | ⟨kd, z, e⟩ | ⟨kd, z, e⟩ <;> rw [e] at e2 <;> dsimp only at e2
        · obtain ⟨c1, hc1⟩ := ((h.gf _ f' hf').y3 kd).1.typ
          obtain ⟨c2, hc2⟩ := (h.gf i f hf).d.1.typ
          exact blk_ne hc1 hc2 (by decide) e2
        · omega
        · omega
        · omega
    yq := fun i hi hk => by
      obtain ⟨f, hf, hg⟩ := getG (fs := fs) (i := i) hi
      have hk' : f.kd = 2 := by unfold gsOf at hk; dsimp only at hk; rw [hg] at hk; exact hk
      exact Or.inr (Or.inr (Or.inr ⟨i, f, hf, Or.inr ⟨by omega, by unfold gsOf; dsimp only; rw [hg]⟩⟩))
    ny := fun i hi hk => by
      obtain ⟨f, hf, hg⟩ := getG (fs := fs) (i := i) hi
      have hk' : f.kd = 2 := by unfold gsOf at hk; dsimp only at hk; rw [hg] at hk; exact hk
      unfold gsOf
      dsimp only
      rw [hg]
      exact ((h.gf i f hf).y2 hk').1.at
    yn := fun x hx i hi hk e2 => by
      obtain ⟨f, hf, hg⟩ := getG (fs := fs) (i := i) hi
      have hk' : f.kd = 2 := by unfold gsOf at hk; dsimp only at hk; rw [hg] at hk; exact hk
      have hd := ylt i f hf (by omega)
      have e0 : (gsOf fs fb).y i = f.y := by unfold gsOf; dsimp only; rw [hg]
      rw [e0] at e2
      rcases gpos fs fb ob u m hx with ⟨-, e, -, -⟩ | ⟨f', hf', hl, hx2, -, -, hc⟩
      · rw [e] at e2; dsimp only at e2; omega
      · rcases hc with ⟨kd, z, e⟩ | ⟨kd, z, e⟩ | ⟨kd, z, e⟩ | ⟨kd, z, e⟩ <;> rw [e] at e2 <;> dsimp only at e2
        · obtain ⟨c1, hc1⟩ := ((h.gf _ f' hf').y3 kd).1.typ
          obtain ⟨c2, hc2⟩ := ((h.gf i f hf).y2 hk').1.typ
          exact blk_ne hc1 hc2 (by decide) e2
        · omega
        · omega
        · omega }
end Go.Proofs.YtfacfgecnpeceaaFmt
