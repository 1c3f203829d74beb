/- n008_142's object comprehension is laid. -/
import Derived.Test.YtgdipdbmllkckaaGreatFmtFrm
namespace Go.Proofs.YtgdipdbmllkckaaGreatFmt
open Go.ChangeShapes Go.WideShapes Go.ChangeAt Go.RowKit

theorem FamI.low {ι : Type} {w : World} {base base' : Nat} {I : ι → Prop} {p : ι → Nat × Nat} {Q : Nat → Prop} {v : ι → Value} {l : ι → List FE} (h : FamI w base I p Q v l) (hb : base' ≤ base) : FamI w base' I p Q v l where
  c := h.c
  f := h.f
  fod := fun i hi => (h.fod i hi).low hb
  inj := h.inj
  dj := h.dj
  q := h.q
  lt := h.lt
  bs := fun b hq => Nat.le_trans hb (h.bs b hq)
  sep := h.sep
theorem FamI.more {ι : Type} {w : World} {base : Nat} {I : ι → Prop} {p : ι → Nat × Nat} {Q : Nat → Prop} {v : ι → Value} {l : ι → List FE} (h : FamI w base I p Q v l) (Q2 : Nat → Prop) (lt : ∀ b, Q2 b → b < w.heap.size) (bs : ∀ b, Q2 b → base ≤ b) (sep : ∀ i, I i → ∀ g, (v i).ownBlock = some g → ¬ Q2 g) :
    FamI w base I p (fun g => Q g ∨ Q2 g) v l where
  c := h.c
  f := h.f
  fod := h.fod
  inj := h.inj
  dj := h.dj
  q := fun i hi => Or.inl (h.q i hi)
  lt := fun b hb => hb.elim (h.lt b) (lt b)
  bs := fun b hb => hb.elim (h.bs b) (bs b)
  sep := fun i hi g hg hq => hq.elim (h.sep i hi g hg) (sep i hi g hg)

def ocV (N : Nat) (fs : List FY) (v : Nat × Nat → Value) (u : Value) (x : Nat × Nat) : Value := if x.1 = N + 1 then fV fs x else if x = (N, 0) then u else v x
def ocL (N : Nat) (fs : List FY) (l : Nat × Nat → List FE) (m : List FE) (x : Nat × Nat) : List FE := if x.1 = N + 1 then fL fs x else if x = (N, 0) then m else l x
theorem ocV_in {P : Pl} {N : Nat} {fs : List FY} {v : Nat × Nat → Value} {u : Value} {x : Nat × Nat} (h : P.In N x) : ocV N fs v u x = v x := by
  have h1 : x.1 < N := h.1
  unfold ocV
  rw [if_neg (by omega), if_neg (fun e => by rw [e] at h1; exact Nat.lt_irrefl _ h1)]
theorem ocL_in {P : Pl} {N : Nat} {fs : List FY} {l : Nat × Nat → List FE} {m : List FE} {x : Nat × Nat} (h : P.In N x) : ocL N fs l m x = l x := by
  have h1 : x.1 < N := h.1
  unfold ocL
  rw [if_neg (by omega), if_neg (fun e => by rw [e] at h1; exact Nat.lt_irrefl _ h1)]
theorem ocV_c (N : Nat) (fs : List FY) (v : Nat × Nat → Value) (u : Value) : ocV N fs v u (N, 0) = u := by unfold ocV; rw [if_neg (by dsimp only; omega), if_pos rfl]
theorem ocL_c (N : Nat) (fs : List FY) (l : Nat × Nat → List FE) (m : List FE) : ocL N fs l m (N, 0) = m := by unfold ocL; rw [if_neg (by dsimp only; omega), if_pos rfl]
theorem ocV_f {N : Nat} {fs : List FY} {v : Nat × Nat → Value} {u : Value} {x : Nat × Nat} (h : x.1 = N + 1) : ocV N fs v u x = fV fs x := by unfold ocV; rw [if_pos h]
theorem ocL_f {N : Nat} {fs : List FY} {l : Nat × Nat → List FE} {m : List FE} {x : Nat × Nat} (h : x.1 = N + 1) : ocL N fs l m x = fL fs x := by unfold ocL; rw [if_pos h]

theorem ocn_of {w0 w w' : World} {C base n nb fb cap b2 : Nat} {P : Pl} {v : Nat × Nat → Value} {l : Nat × Nat → List FE} {fs : List FY} {zs : List (Bool × List ZE × List ZE)} {u : Value} {m : List FE} (hr : FRow w0 C (.slice (some ⟨fb, 0, none⟩) fs.length cap) fs zs) (k0 : Kept [] w0 w) (hC : C ≤ w0.heap.size) (hcap : fs.length ≤ cap ∧ cap ≤ maxLen ∧ fs.length ≤ 1048576)
    (h : Raw w base (n + 1) P v l) (hb0 : w0.heap.size ≤ base) (hb : base ≤ w.heap.size) (q : Kept [] w w') (f2 : Fod w b2 u m) (hb2 : base ≤ b2) (d2 : ∀ x, P.In (n + 1) x → ∀ g, (v x).ownBlock = some g → u.ownBlock ≠ some g)
    {tcf : Value} {rest : List Value} (hn : w'.heap[nb]? = some (.cells (.slice (some ⟨fb, 0, none⟩) fs.length cap :: tcf :: u :: v (n, 0) :: .slice none 0 0 :: .slice (P.ca n) (P.m n) (P.cc n) :: P.out n :: nulI (P.xe n) :: .string ⟨#[120]⟩ :: .slice none 0 0 :: rest).toArray 63 (0, 0))) (hnb : w.heap.size ≤ nb) :
    OCN w' C nb (n + 1) (P.to n nb 3) (flsOf fs fb cap) (fun g => (((P.Q (n + 1) g ∨ g = nb) ∨ g = nb) ∨ fQ fs fb g) ∨ ∃ (i : Nat) (f : FY), fs[i]? = some f ∧ g = f.d) (ocV (n + 1) fs v u) (ocL (n + 1) fs l m) := by
  have s0 := k0.size
  have sq := q.size
  obtain ⟨ch, fam, fr, hQ⟩ := h.moveTo (g := nb) (o := 3) q hb (fun j hj => by
    match j, hj with
    | 0, _ => exact cell_of_block hn 3
    | 1, _ => exact cell_of_block hn 4
    | 2, _ => exact cell_of_block hn 5
    | 3, _ => exact cell_of_block hn 6
    | 4, _ => exact cell_of_block hn 7
    | 5, _ => exact cell_of_block hn 8
    | 6, _ => exact cell_of_block hn 9) (frozen_of_block hn 3) hnb
  have fm := h.fam
  have hrw := (hr.kept0 k0).kept0 q
  have lt2 : ∀ g, u.ownBlock = some g → base ≤ g ∧ g < w.heap.size := fun g hg => by have := World.ownsRow.lt f2 g hg; omega
  have ltv : ∀ x, P.In (n + 1) x → ∀ g, (v x).ownBlock = some g → base ≤ g ∧ g < w.heap.size := fun x hx g hg => World.ownsRow.lt (h.fod x hx) g hg
  have ltf : ∀ (i : Nat) f, fs[i]? = some f → ∀ b g, (f.val b).ownBlock = some g → g < w0.heap.size := fun i f hf b g hg => (World.ownsRow.lt (hr.fo i f hf b) g hg).2
  have qlt : ∀ g, P.Q (n + 1) g → g < w.heap.size := fm.lt
  have qbs : ∀ g, P.Q (n + 1) g → base ≤ g := h.bs
  have fqlt : ∀ g, fQ fs fb g → g < w0.heap.size := fun g hg => (hr.fam P (n + 1) nb).lt g hg
  have dlt : ∀ (i : Nat) f, fs[i]? = some f → f.d < w0.heap.size := fun i f hf => (hr.nul i f hf).1.lt
  have pIn : ∀ x, P.In (n + 1) x → ocp (P.to n nb 3) (n + 1) nb (flsOf fs fb cap) x = (P.to n nb 3).pos x := fun x hx => ocp_in (P := P.to n nb 3) hx
  have posNb : ∀ x, P.In (n + 1) x → (P.to n nb 3).pos x = (nb, 3) ∨ (P.to n nb 3).pos x = P.pos x := fun x hx => by
    rw [Pl.to_pos]
    by_cases hxn : x = (n, 0)
    · rw [if_pos hxn]; exact Or.inl rfl
    · rw [if_neg hxn]; exact Or.inr rfl
  have pq : ∀ x, P.In (n + 1) x → base ≤ (P.pos x).1 ∧ (P.pos x).1 < w.heap.size := fun x hx => ⟨qbs _ (fm.q x hx), qlt _ (fm.q x hx)⟩
  have pf : ∀ x : Nat × Nat, x.1 = n + 1 + 1 → x.2 < 2 * fs.length → (ocp (P.to n nb 3) (n + 1) nb (flsOf fs fb cap) x).1 < w0.heap.size := fun x h1 h2 => fqlt _ ((hr.fam (P.to n nb 3) (n + 1) nb).q x ⟨h1, h2⟩)
  have F1 : FamI w' C (fun x => (P.to n nb 3).In (n + 1) x) (ocp (P.to n nb 3) (n + 1) nb (flsOf fs fb cap)) (fun g => P.Q (n + 1) g ∨ g = nb) (ocV (n + 1) fs v u) (ocL (n + 1) fs l m) :=
    (fam.as (fun x hx => hx) (fun x hx => pIn x hx) (fun x hx => ocV_in (P := P) hx) (fun x hx => ocL_in (P := P) hx)).low (by omega)
  have F2 : FamI w' C (fun x => x = (n + 1, 0)) (ocp (P.to n nb 3) (n + 1) nb (flsOf fs fb cap)) (fun g => g = nb) (ocV (n + 1) fs v u) (ocL (n + 1) fs l m) :=
    FamI.one (ocp_c _ _ _ _) (by rw [ocV_c]; exact cell_of_block hn 2) (frozen_of_block hn 2) (by rw [ocV_c, ocL_c]; exact (f2.kept q (by simp)).low (by omega)) (by omega) (fun g hg => by rw [ocV_c] at hg; have := lt2 g hg; omega)
  have F3 : FamI w' C (fun x : Nat × Nat => x.1 = n + 1 + 1 ∧ x.2 < 2 * fs.length) (ocp (P.to n nb 3) (n + 1) nb (flsOf fs fb cap)) (fQ fs fb) (ocV (n + 1) fs v u) (ocL (n + 1) fs l m) :=
    (hrw.fam (P.to n nb 3) (n + 1) nb).as (fun x hx => hx) (fun x hx => rfl) (fun x hx => ocV_f hx.1) (fun x hx => ocL_f hx.1)
  have ownF : ∀ x : Nat × Nat, x.1 = n + 1 + 1 → x.2 < 2 * fs.length → ∀ g, (ocV (n + 1) fs v u x).ownBlock = some g → g < w0.heap.size := fun x h1 h2 g hg => by
    rw [ocV_f h1] at hg
    obtain ⟨f, hf, e1, -, -⟩ := flPos fs fb cap P (n + 1) nb h1 h2
    rw [e1] at hg
    exact ltf _ f hf _ g hg
  have F12 := F1.or F2 (fun x y hx hy => by
      subst hy
      rw [pIn x hx, ocp_c]
      rcases posNb x hx with e | e
      · rw [e]; simp
      · rw [e]; intro e2; have := pq x hx; have := congrArg Prod.fst e2; dsimp only at this; omega)
    (fun x y hx hy g hg => by subst hy; rw [ocV_c]; rw [ocV_in (P := P) hx] at hg; exact d2 x hx g hg)
    (fun x hx g hg e => by rw [ocV_in (P := P) hx] at hg; have := ltv x hx g hg; omega)
    (fun x hx g hg e => by
      subst hx
      rw [ocV_c] at hg
      rcases e with e | e
      · exact h.sepF f2 g hg e
      · have := lt2 g hg; omega)
  have F := F12.or F3 (fun x y hx hy e => by
      have h1 := pf y hy.1 hy.2
      rw [← e] at h1
      rcases hx with hx | rfl
      · rw [pIn x hx] at h1
        rcases posNb x hx with e | e
        · rw [e] at h1; dsimp only at h1; omega
        · rw [e] at h1; have := pq x hx; omega
      · rw [ocp_c] at h1; dsimp only at h1; omega)
    (fun x y hx hy g hg e => by
      have h1 := ownF y hy.1 hy.2 g e
      rcases hx with hx | rfl
      · rw [ocV_in (P := P) hx] at hg; have := ltv x hx g hg; omega
      · rw [ocV_c] at hg; have := lt2 g hg; omega)
    (fun x hx g hg e => by
      have h1 := fqlt g e
      rcases hx with hx | rfl
      · rw [ocV_in (P := P) hx] at hg; have := ltv x hx g hg; omega
      · rw [ocV_c] at hg; have := lt2 g hg; omega)
    (fun x hx g hg e => by
      have h1 := ownF x hx.1 hx.2 g hg
      rcases e with (e | e) | e
      · have := qbs g e; omega
      · omega
      · omega)
  have FF := F.more (fun g => ∃ (i : Nat) (f : FY), fs[i]? = some f ∧ g = f.d) (fun b ⟨i, f, hf, e⟩ => by have := dlt i f hf; omega) (fun b ⟨i, f, hf, e⟩ => by have := (hr.nul i f hf).2; omega) (fun x hx g hg ⟨i, f, hf, e⟩ => by
    obtain ⟨cs, hc⟩ := (F.fod x hx).own.typ g (by simp [hg])
    have h2 := ((hrw.nul i f hf).1)
    unfold NulT at h2
    rw [← e, hc] at h2
    simp at h2)
  have nbq : ∀ i, i < n + 1 → ∀ g, (g = P.cb i ∧ 0 < P.m i) ∨ g = P.xe i ∨ (∃ j, j < P.m i ∧ g = P.xi i j) → base ≤ g ∧ g < w.heap.size := fun i hi g hg => by
    have : P.Q (n + 1) g := by
      rcases hg with ⟨rfl, hm⟩ | rfl | ⟨j, hj, rfl⟩
      · exact ⟨i, hi, Or.inr (Or.inl ⟨hm, rfl⟩)⟩
      · exact ⟨i, hi, Or.inr (Or.inr (Or.inl rfl))⟩
      · exact ⟨i, hi, Or.inr (Or.inr (Or.inr ⟨j, hj, rfl⟩))⟩
    exact ⟨qbs g this, qlt g this⟩
  have bto : ∀ i, i < n + 1 → ((P.to n nb 3).b i = nb ∧ (P.to n nb 3).o i = 3) ∨ (base ≤ (P.to n nb 3).b i ∧ (P.to n nb 3).b i < w.heap.size) := fun i hi => by
    by_cases hin : i = n
    · subst hin; exact Or.inl ⟨putI_same _ _ _, putI_same _ _ _⟩
    · refine Or.inr ?_
      have : (P.to n nb 3).b i = P.b i := putI_other _ _ _ hin
      rw [this]
      exact ⟨qbs _ ⟨i, hi, Or.inl rfl⟩, qlt _ ⟨i, hi, Or.inl rfl⟩⟩
  have stv : ∀ i f, fs[i]? = some f → ∀ k, stK (flsOf fs fb cap) i k → (encF f)[k]? = (stC (flsOf fs fb cap) i)[k]? := fun i f hf k hk => by
    have hg : fs.getD i default = f := by rw [List.getD_eq_getElem?_getD, hf]; rfl
    obtain ⟨h1, h2, h3⟩ := hk
    unfold stC encF flsOf
    unfold flsOf at h3
    dsimp only at h3 ⊢
    simp only [hg] at h3 ⊢
    by_cases hk3 : k = 3
    · subst hk3; simp [h3 rfl]
    · match k, h1, h2, hk3 with
      | 0, _, _, _ => rfl
      | 1, _, _, _ => rfl
      | 2, _, _, _ => rfl
      | 5, _, _, _ => rfl
      | 6, _, _, _ => rfl
      | 7, _, _, _ => rfl
      | 8, _, _, _ => rfl
      | 9, _, _, _ => rfl
      | 10, _, _, _ => rfl
      | 11, _, _, _ => rfl
      | 12, _, _, _ => rfl
      | 13, _, _, _ => rfl
      | 14, _, _, _ => rfl
      | 15, _, _, _ => rfl
      | 16, _, _, _ => rfl
      | 17, _, _, _ => rfl
      | k + 18, h, _, _ => exact absurd h (by omega)
  exact {
    pos := Nat.succ_pos n
    b := putI_same _ _ _
    o := putI_same _ _ _
    ch := ch
    fam := FF.as (fun x hx => by
      rcases hx with hx | rfl | hx
      · exact Or.inl (Or.inl hx)
      · exact Or.inl (Or.inr rfl)
      · exact Or.inr hx) (fun _ _ => rfl) (fun _ _ => rfl) (fun _ _ => rfl)
    fr := {
      lv := fun x hx i k hi h1 h6 => by
        rcases hx with hx | rfl | hx
        · rw [pIn x hx]; exact fr.lv x hx i k hi h1 h6
        · rw [ocp_c]; intro e
          have e1 := congrArg Prod.fst e
          have e2 := congrArg Prod.snd e
          dsimp only at e1 e2
          rcases bto i hi with ⟨a, b⟩ | a
          · rw [b] at e2; omega
          · omega
        · intro e
          have h1 := pf x hx.1 hx.2
          rw [e] at h1
          dsimp only at h1
          rcases bto i hi with ⟨a, b⟩ | a
          · omega
          · omega
      cd := fun x hx i j hi hj => by
        have hm : 0 < P.m i := Nat.lt_of_le_of_lt (Nat.zero_le _) hj
        have := nbq i hi (P.cb i) (Or.inl ⟨rfl, hm⟩)
        rcases hx with hx | rfl | hx
        · rw [pIn x hx]; exact fr.cd x hx i j hi hj
        · rw [ocp_c]; intro e
          have e1 : nb = P.cb i := congrArg Prod.fst e
          omega
        · intro e
          have h1 := pf x hx.1 hx.2
          have e1 : _ = P.cb i := congrArg Prod.fst e
          omega
      ne := fun x hx i hi => by
        have := nbq i hi (P.xe i) (Or.inr (Or.inl rfl))
        rcases hx with hx | rfl | hx
        · rw [pIn x hx]; exact fr.ne x hx i hi
        · rw [ocp_c]; intro e
          have e1 : nb = P.xe i := e
          omega
        · intro e
          have h1 := pf x hx.1 hx.2
          have e1 : _ = P.xe i := e
          omega
      ni := fun x hx i j hi hj => by
        have := nbq i hi (P.xi i j) (Or.inr (Or.inr ⟨j, hj, rfl⟩))
        rcases hx with hx | rfl | hx
        · rw [pIn x hx]; exact fr.ni x hx i j hi hj
        · rw [ocp_c]; intro e
          have e1 : nb = P.xi i j := e
          omega
        · intro e
          have h1 := pf x hx.1 hx.2
          have e1 : _ = P.xi i j := e
          omega }
    hQ := fun g hg => by
      rcases hQ g hg with a | a
      · exact Or.inl (Or.inl (Or.inl (Or.inl a)))
      · exact Or.inl (Or.inl (Or.inl (Or.inr a)))
    f0 := fun x hx => by
      rcases hx with hx | rfl | hx
      · rw [pIn x hx]
        rcases posNb x hx with e | e
        · rw [e]; simp
        · rw [e]; intro e2; have := pq x hx; have := congrArg Prod.fst e2; dsimp only at this; omega
      · rw [ocp_c]; simp
      · intro e
        have h1 := pf x hx.1 hx.2
        rw [e] at h1
        dsimp only at h1
        omega
    c0 := cell_of_block hn 0
    ml := hcap
    fq := Or.inl (Or.inr (Or.inl rfl))
    st := fun i k hi hk => by
      obtain ⟨f, hf, -⟩ := getD_at (fs := fs) (i := i) hi
      rw [← stv i f hf k hk]
      exact hrw.cell hf k hk.1
    sf := fun x hx i k hi hk => by
      have hfl := fqlt fb (Or.inl rfl)
      rcases hx with hx | rfl | hx
      · rw [pIn x hx]
        rcases posNb x hx with e | e
        · rw [e]; intro e2; have := congrArg Prod.fst e2; dsimp only [flsOf] at this; omega
        · rw [e]; intro e2; have := pq x hx; have := congrArg Prod.fst e2; dsimp only [flsOf] at this; omega
      · rw [ocp_c]; intro e2; have := congrArg Prod.fst e2; dsimp only [flsOf] at this; omega
      · intro e2
        obtain ⟨h1, h2, h3⟩ := hk
        obtain ⟨f, hf, -, -, hc⟩ := flPos fs fb cap (P.to n nb 3) (n + 1) nb hx.1 hx.2
        have hfi : fs.getD (x.2 / 2) default = f := by rw [List.getD_eq_getElem?_getD, hf]; rfl
        rcases hc with ⟨a, b, e⟩ | ⟨a, b, e⟩ | ⟨a, e⟩
        · rw [e] at e2
          obtain ⟨cs, hc⟩ := (hr.lit _ f hf b).1.typ
          obtain ⟨cs2, hc2⟩ := hr.own.typ fb (by simp [Value.ownBlock])
          have e3 : f.y = fb := congrArg Prod.fst e2
          rw [e3, hc2] at hc
          simp at hc
        · rw [e] at e2
          have e3 : x.2 / 2 * 18 + 3 = i * 18 + k := congrArg Prod.snd e2
          have hi2 : x.2 / 2 = i := by omega
          have hk3 : k = 3 := by omega
          have := h3 hk3
          unfold flsOf at this
          dsimp only at this
          rw [← hi2, hfi, b] at this
          cases this
        · rw [e] at e2
          have e3 : x.2 / 2 * 18 + 4 = i * 18 + k := congrArg Prod.snd e2
          omega
    dq := fun i hi => by
      obtain ⟨f, hf, hg⟩ := getD_at (fs := fs) (i := i) hi
      exact Or.inr ⟨i, f, hf, by unfold flsOf; dsimp only; rw [hg]⟩
    nd := fun i hi => by
      obtain ⟨f, hf, hg⟩ := getD_at (fs := fs) (i := i) hi
      unfold flsOf
      dsimp only
      rw [hg]
      exact (hrw.nul i f hf).1.at
    dn := fun x hx i hi => by
      obtain ⟨f, hf, hg⟩ := getD_at (fs := fs) (i := i) hi
      have hd := dlt i f hf
      have e0 : (flsOf fs fb cap).d i = f.d := by unfold flsOf; dsimp only; rw [hg]
      rw [e0]
      rcases hx with hx | rfl | hx
      · rw [pIn x hx]
        rcases posNb x hx with e | e
        · rw [e]; dsimp only; omega
        · rw [e]; have := pq x hx; omega
      · rw [ocp_c]; dsimp only; omega
      · intro e
        obtain ⟨f', hf', -, -, hc⟩ := flPos fs fb cap (P.to n nb 3) (n + 1) nb hx.1 hx.2
        have h2 := (hr.nul i f hf).1
        unfold NulT at h2
        rcases hc with ⟨a, b, e'⟩ | ⟨a, b, e'⟩ | ⟨a, e'⟩
        · rw [e'] at e
          obtain ⟨cs, hc⟩ := (hr.lit _ f' hf' b).1.typ
          have e3 : f'.y = f.d := e
          rw [e3, h2] at hc
          simp at hc
        · rw [e'] at e
          obtain ⟨cs, hc⟩ := hr.own.typ fb (by simp [Value.ownBlock])
          have e3 : fb = f.d := e
          rw [e3, h2] at hc
          simp at hc
        · rw [e'] at e
          obtain ⟨cs, hc⟩ := hr.own.typ fb (by simp [Value.ownBlock])
          have e3 : fb = f.d := e
          rw [e3, h2] at hc
          simp at hc }
end Go.Proofs.YtgdipdbmllkckaaGreatFmt
