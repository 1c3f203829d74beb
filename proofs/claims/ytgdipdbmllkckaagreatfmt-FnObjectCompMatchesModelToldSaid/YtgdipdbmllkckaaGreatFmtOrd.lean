/- What an object comprehension holds, before and after FixNewlines.ObjectComp. -/
import Derived.Test.YtgdipdbmllkckaaGreatFmtOco
namespace Go.Proofs.YtgdipdbmllkckaaGreatFmt
open Go.ChangeShapes Go.WideShapes Go.ChangeAt Go.RowKit

abbrev FZ := Bool × List ZE × List ZE
/-- At nb lies an object comprehension whose fields, levels and close fodder read as these. -/
def ORd (w : World) (base nb fb cap : Nat) (fs : List FY) (zs : List FZ) (ws : List SE) (zc : List ZE) (G : Nat → Prop) : Prop :=
  ∃ P Q v l, OCN w base nb ws.length P (flsOf fs fb cap) Q v l ∧ Sn P l ws.length ws ∧ codes (l (ws.length, 0)) = zc ∧ (∀ (i : Nat) z, zs[i]? = some z → codes (l (ws.length + 1, 2 * i)) = z.2.1 ∧ codes (l (ws.length + 1, 2 * i + 1)) = z.2.2) ∧ zs.length = fs.length ∧
    (∀ x, ocI P ws.length (flsOf fs fb cap) x → GoodL (codes (l x)) ∧ (l x).length ≤ 1048577) ∧ ws.length ≤ 1048576 ∧ base ≤ w.heap.size ∧ ∀ g, G g → Q g ∧ ∀ x, ocI P ws.length (flsOf fs fb cap) x → (ocp P ws.length nb (flsOf fs fb cap) x).1 ≠ g
theorem ORd.kept {w w' : World} {base nb fb cap : Nat} {fs : List FY} {zs : List FZ} {ws : List SE} {zc : List ZE} {G : Nat → Prop} (h : ORd w base nb fb cap fs zs ws zc G) (q : Kept [] w w') : ORd w' base nb fb cap fs zs ws zc G := by
  obtain ⟨P, Q, v, l, h1, h2, h3, h4, h5, h6, h7, h8, h9⟩ := h
  exact ⟨P, Q, v, l, h1.kept q, h2, h3, h4, h5, h6, h7, Nat.le_trans h8 q.size, h9⟩
theorem ORd.equals {w : World} {base nb fb cap : Nat} {fs : List FY} {zs : List FZ} {ws : List SE} {zc : List ZE} {G : Nat → Prop} (h : ORd w base nb fb cap fs zs ws zc G) (a : Option Addr) (n c : Nat) (hr : RdS w a n c ws) :
    Calls Tryz.prog 21 #[.pointer (some ⟨nb, 3, none⟩), .slice a n c] w (Bl true w) := by
  obtain ⟨P, Q, v, l, h1, h2, h3, h4, h5, h6, h7, h8, h9⟩ := h
  obtain rfl := hr.len
  have hp := h1.pos
  have ho : P.out ws.length = .pointer (some ⟨nb, 3, none⟩) := by unfold Pl.out; rw [if_neg (by omega), h1.b, h1.o]
  exact zzSpecEquals_same w base ws.length P v l h1.ch (h1.chf (fun x hx => kinds_of_good (h6 x hx).1)) (fun x hx => (h6 x (Or.inl hx)).2) a c ws hr h2 h7 _ ho
/-- A fodder of it, read. -/
theorem ORd.els {w : World} {base nb n : Nat} {P : Pl} {F : Fls} {Q : Nat → Prop} {v : Nat × Nat → Value} {l : Nat × Nat → List FE} (h1 : OCN w base nb n P F Q v l) (h6 : ∀ x, ocI P n F x → GoodL (codes (l x)) ∧ (l x).length ≤ 1048577) {x : Nat × Nat} (hx : ocI P n F x) {z : List ZE} (hz : codes (l x) = z) {p : Addr} (hc : w.cell? p = some (v x)) :
    ∃ a n c, w.cell? p = some (.slice a n c) ∧ n = z.length ∧ ∀ w', Kept [] w w' → Calls Tryz.prog 18 #[.slice a n c] w' (Codes z w') := by
  have f := h1.fam.fod x hx
  obtain ⟨a, n, c, hv⟩ := f.isSlice
  rw [hv] at hc f
  refine ⟨a, n, c, hc, by rw [← hz, codes, List.length_map]; exact f.len, fun w' q => ?_⟩
  have g := h6 x hx
  have := zzToEls_any w' base _ _ (f.kept q (by simp)) (kinds_of_good g.1) g.2
  rwa [hz] at this
theorem ORd.close {w : World} {base nb fb cap : Nat} {fs : List FY} {zs : List FZ} {ws : List SE} {zc : List ZE} {G : Nat → Prop} (h : ORd w base nb fb cap fs zs ws zc G) : ∃ a n c, w.cell? ⟨nb, 2, none⟩ = some (.slice a n c) ∧ n = zc.length ∧ ∀ w', Kept [] w w' → Calls Tryz.prog 18 #[.slice a n c] w' (Codes zc w') := by
  obtain ⟨P, Q, v, l, h1, h2, h3, h4, h5, h6, h7, h8, h9⟩ := h
  exact ORd.els h1 h6 (Or.inr (Or.inl rfl)) h3 h1.cc
theorem ORd.fields {w : World} {base nb fb cap : Nat} {fs : List FY} {zs : List FZ} {ws : List SE} {zc : List ZE} {G : Nat → Prop} (h : ORd w base nb fb cap fs zs ws zc G) : w.cell? ⟨nb, 0, none⟩ = some (.slice (some ⟨fb, 0, none⟩) fs.length cap) ∧ fs.length ≤ cap ∧ cap ≤ maxLen ∧ fs.length ≤ 1048576 := by
  obtain ⟨P, Q, v, l, h1, h2, h3, h4, h5, h6, h7, h8, h9⟩ := h
  exact ⟨h1.c0, h1.ml⟩
/-- The opening fodder of field i: at its literal, or in its own cell. -/
theorem ORd.opens {w : World} {base nb fb cap : Nat} {fs : List FY} {zs : List FZ} {ws : List SE} {zc : List ZE} {G : Nat → Prop} (h : ORd w base nb fb cap fs zs ws zc G) {i : Nat} {f : FY} {z : FZ} (hf : fs[i]? = some f) (hz : zs[i]? = some z) :
    ∃ a n c, w.cell? (if f.str then ⟨f.y, 3, none⟩ else ⟨fb, i * 18 + 3, none⟩) = some (.slice a n c) ∧ n = z.2.1.length ∧ ∀ w', Kept [] w w' → Calls Tryz.prog 18 #[.slice a n c] w' (Codes z.2.1 w') := by
  obtain ⟨P, Q, v, l, h1, h2, h3, h4, h5, h6, h7, h8, h9⟩ := h
  have hi : i < (flsOf fs fb cap).nf := (List.getElem?_eq_some_iff.1 hf).1
  have hg : fs.getD i default = f := by rw [List.getD_eq_getElem?_getD, hf]; rfl
  refine ORd.els h1 h6 (ocI_op hi) (h4 i z hz).1 ?_
  have hs : (flsOf fs fb cap).str i = f.str := by unfold flsOf; dsimp only; rw [hg]
  have hy : (flsOf fs fb cap).y i = f.y := by unfold flsOf; dsimp only; rw [hg]
  cases hb : f.str
  · rw [if_neg (by simp)]
    exact h1.c3 i hi (by rw [hs, hb])
  · rw [if_pos rfl, ← hy]
    exact (h1.cy i hi (by rw [hs, hb])).1
theorem ORd.ops {w : World} {base nb fb cap : Nat} {fs : List FY} {zs : List FZ} {ws : List SE} {zc : List ZE} {G : Nat → Prop} (h : ORd w base nb fb cap fs zs ws zc G) {i : Nat} {f : FY} {z : FZ} (hf : fs[i]? = some f) (hz : zs[i]? = some z) :
    ∃ a n c, w.cell? ⟨fb, i * 18 + 4, none⟩ = some (.slice a n c) ∧ n = z.2.2.length ∧ ∀ w', Kept [] w w' → Calls Tryz.prog 18 #[.slice a n c] w' (Codes z.2.2 w') := by
  obtain ⟨P, Q, v, l, h1, h2, h3, h4, h5, h6, h7, h8, h9⟩ := h
  have hi : i < (flsOf fs fb cap).nf := (List.getElem?_eq_some_iff.1 hf).1
  exact ORd.els h1 h6 (ocI_ot hi) (h4 i z hz).2 (h1.c4 i hi)
/-- A field named by a string has no fodder in its own cell. -/
theorem ORd.noF1 {w : World} {base nb fb cap : Nat} {fs : List FY} {zs : List FZ} {ws : List SE} {zc : List ZE} {G : Nat → Prop} (h : ORd w base nb fb cap fs zs ws zc G) {i : Nat} {f : FY} (hf : fs[i]? = some f) (hs : f.str = true) : w.cell? ⟨fb, i * 18 + 3, none⟩ = some (.slice none 0 0) := by
  obtain ⟨P, Q, v, l, h1, h2, h3, h4, h5, h6, h7, h8, h9⟩ := h
  have hi : i < (flsOf fs fb cap).nf := (List.getElem?_eq_some_iff.1 hf).1
  have hg : fs.getD i default = f := by rw [List.getD_eq_getElem?_getD, hf]; rfl
  exact h1.st i 3 hi ⟨by omega, by omega, fun _ => by unfold flsOf; dsimp only; rw [hg, hs]⟩

theorem flTo_says {l : Nat × Nat → List FE} {n : Nat} {zs : List FZ} (h : ∀ (i : Nat) z, zs[i]? = some z → codes (l (n + 1, 2 * i)) = z.2.1) (hg : ∀ i, i < zs.length → GoodL (codes (l (n + 1, 2 * i))) ∧ (l (n + 1, 2 * i)).length ≤ 1048577) : flTo l n zs.length = zs.any (fun z => hasNL z.2.1) := by
  rw [Bool.eq_iff_iff]
  unfold flTo
  rw [List.any_eq_true, List.any_eq_true]
  constructor
  · rintro ⟨i, hi, h1⟩
    have hi := List.mem_range.1 hi
    refine ⟨zs[i], List.getElem_mem hi, ?_⟩
    rw [sumNL_pos _ (hg i hi).1 (hg i hi).2, h i _ (List.getElem?_eq_getElem hi)] at h1
    exact h1
  · rintro ⟨z, hz, h1⟩
    obtain ⟨i, hi, rfl⟩ := List.mem_iff_getElem.1 hz
    exact ⟨i, List.mem_range.2 hi, by rw [sumNL_pos _ (hg i hi).1 (hg i hi).2, h i _ (List.getElem?_eq_getElem hi)]; exact h1⟩
def orE (zs : List FZ) (ws : List SE) (zc : List ZE) : Bool := zs.any (fun z => hasNL z.2.1) || specsNL ws || hasNL zc
def ensFl (z : FZ) : FZ := (z.1, ensE z.2.1, z.2.2)

theorem ORd.fix {w : World} {base nb fb cap : Nat} {fs : List FY} {zs : List FZ} {ws : List SE} {zc : List ZE} {G : Nat → Prop} (h : ORd w base nb fb cap fs zs ws zc G) (hs : ∀ s ∈ ws, SmallE s) (hzs : ∀ z ∈ zs, z.2.1.length ≤ 1048576 ∧ z.2.2.length ≤ 1048576) (hzc : zc.length ≤ 1048576) :
    Calls Tryz.prog 13 #[.pointer (some ⟨nb, 0, none⟩)] w fun e w' => e = .returned (.tuple #[]) ∧ Below base w w' ∧ (∀ g, G g → w'.heap[g]? = w.heap[g]?) ∧
      ((orE zs ws zc = true ∧ ORd w' base nb fb cap fs (zs.map ensFl) (ws.map ensSp) (ensE zc) G) ∨ (orE zs ws zc = false ∧ ORd w' base nb fb cap fs zs ws zc G)) := by
  obtain ⟨P, Q, v, l, h1, h2, h3, h4, h5, h6, h7, h8, h9⟩ := h
  have len : ∀ {m : List FE} {d : List ZE}, codes m = d → m.length = d.length := fun e => by rw [← e]; simp [codes]
  have nf : (flsOf fs fb cap).nf = fs.length := rfl
  have hl : ∀ x, ocI P ws.length (flsOf fs fb cap) x → (l x).length ≤ 1048576 := fun x hx => by
    rcases hx with hx | rfl | hx
    · obtain ⟨i, j⟩ := x
      obtain ⟨x1, x2⟩ := hx
      dsimp only at x1 x2
      obtain ⟨e1, e2, e3⟩ := h2 i _ x1 (List.getElem?_eq_getElem x1)
      obtain ⟨s1, s2, s3⟩ := hs _ (List.getElem_mem x1)
      cases j with
      | zero => rw [len e2]; exact s1
      | succ j =>
        rw [e1] at x2
        have hj : j < ws[i].ifs.length := by omega
        rw [len (e3 j _ (List.getElem?_eq_getElem hj))]; exact s3 _ (List.getElem_mem hj)
    · rw [len h3]; exact hzc
    · obtain ⟨a, b⟩ := x
      obtain ⟨rfl, hb⟩ := hx
      rw [nf] at hb
      have hi : b / 2 < zs.length := by omega
      obtain ⟨c1, c2⟩ := h4 (b / 2) _ (List.getElem?_eq_getElem hi)
      obtain ⟨d1, d2⟩ := hzs _ (List.getElem_mem hi)
      rcases Nat.mod_two_eq_zero_or_one b with hm | hm
      · have hb2 : 2 * (b / 2) = b := by omega
        rw [hb2] at c1
        rw [len c1]; exact d1
      · have hb2 : 2 * (b / 2) + 1 = b := by omega
        rw [hb2] at c2
        rw [len c2]; exact d2
  have hE : ocE P (flsOf fs fb cap) l ws.length = orE zs ws zc := by
    unfold ocE orE
    rw [sumNL_pos _ (h6 _ (Or.inr (Or.inl rfl))).1 (h6 _ (Or.inr (Or.inl rfl))).2, h3, chTo_says h2 (fun x hx => h6 x (Or.inl hx)), nf, ← h5, flTo_says (fun i z hz => (h4 i z hz).1) (fun i hi => h6 _ (ocI_op (by rw [nf, ← h5]; exact hi)))]
  refine (zzfix_ObjectComp w base nb ws.length P (flsOf fs fb cap) Q v l h1 (fun x hx => kinds_of_good (h6 x hx).1) (fun x hx _ => hl x hx) h8).mono ?_
  rintro e w' ⟨rfl, Q', v', l', f1, f2, f3, f4, f5⟩
  refine ⟨rfl, f3, fun g hg => f5 g (h9 g hg).1 (h9 g hg).2, ?_⟩
  rw [hE] at f2
  have hop : ∀ i, i < fs.length → ocI P ws.length (flsOf fs fb cap) (ws.length + 1, 2 * i) := fun i hi => ocI_op hi
  have hot : ∀ i, i < fs.length → ocI P ws.length (flsOf fs fb cap) (ws.length + 1, 2 * i + 1) := fun i hi => ocI_ot hi
  cases hb : orE zs ws zc
  · have hsame : ∀ x, ocI P ws.length (flsOf fs fb cap) x → l' x = l x := fun x hx => by
      rcases f2 x hx with ⟨_, a, _⟩ | ⟨_, a⟩
      · rw [hb] at a; cases a
      · exact a
    refine Or.inr ⟨rfl, P, Q', v', l', f1, ?_, ?_, ?_, h5, ?_, h7, Nat.le_trans h8 f3.size, fun g hg => ⟨f4 g (h9 g hg).1, (h9 g hg).2⟩⟩
    · intro i s hi hss
      obtain ⟨e1, e2, e3⟩ := h2 i s hi hss
      refine ⟨e1, by rw [hsame (i, 0) (Or.inl ⟨hi, Nat.zero_le _⟩)]; exact e2, fun j d hd => ?_⟩
      have hj : j < s.ifs.length := (List.getElem?_eq_some_iff.1 hd).1
      have hjm : j + 1 ≤ P.m i := by omega
      rw [hsame (i, j + 1) (Or.inl ⟨hi, hjm⟩)]
      exact e3 j d hd
    · rw [hsame _ (Or.inr (Or.inl rfl))]; exact h3
    · intro i z hz
      have hi : i < fs.length := by rw [← h5]; exact (List.getElem?_eq_some_iff.1 hz).1
      rw [hsame _ (hop i hi), hsame _ (hot i hi)]
      exact h4 i z hz
    · intro x hx; rw [hsame x hx]; exact h6 x hx
  · have ens : ∀ x, ocI P ws.length (flsOf fs fb cap) x → ocS P ws.length x → Ens (l x) (l' x) := fun x hx hS => by
      rcases f2 x hx with ⟨_, _, a⟩ | ⟨a, _⟩
      · exact a
      · rcases a with a | a
        · exact absurd hS a
        · rw [hb] at a; cases a
    have keep : ∀ i, i < fs.length → l' (ws.length + 1, 2 * i + 1) = l (ws.length + 1, 2 * i + 1) := fun i hi => by
      rcases f2 _ (hot i hi) with ⟨a, _, _⟩ | ⟨_, a⟩
      · exfalso
        rcases a with a | a | a
        · have h9 : ws.length + 1 < ws.length := a.1
          omega
        · have h9 : ws.length + 1 = ws.length := congrArg Prod.fst a
          omega
        · have h9 : (2 * i + 1) % 2 = 0 := a.2
          omega
      · exact a
    have hlm : (ws.map ensSp).length = ws.length := List.length_map _
    refine Or.inl ⟨rfl, P, Q', v', l', by rw [hlm]; exact f1, h2.ens (fun x hx => ens x (Or.inl hx) (Or.inl hx)), by rw [hlm, (ens _ (Or.inr (Or.inl rfl)) (Or.inr (Or.inl rfl))).cod, h3], ?_, by rw [List.length_map]; exact h5, ?_, by rw [hlm]; exact h7, Nat.le_trans h8 f3.size, fun g hg => by rw [hlm]; exact ⟨f4 g (h9 g hg).1, (h9 g hg).2⟩⟩
    · rw [hlm]
      intro i z hz
      rw [List.getElem?_map] at hz
      obtain ⟨z0, hz0, rfl⟩ := Option.map_eq_some_iff.1 hz
      have hi : i < fs.length := by rw [← h5]; exact (List.getElem?_eq_some_iff.1 hz0).1
      obtain ⟨c1, c2⟩ := h4 i z0 hz0
      exact ⟨by rw [(ens _ (hop i hi) (Or.inr (Or.inr ⟨rfl, by dsimp only; omega⟩))).cod, c1]; rfl, by rw [keep i hi]; exact c2⟩
    · rw [hlm]
      intro x hx
      rcases f2 x hx with ⟨_, _, e⟩ | ⟨_, e⟩
      · exact ⟨by rw [e.cod]; exact (h6 x hx).1.ens, by have := e.len; have := hl x hx; omega⟩
      · rw [e]; exact h6 x hx

/-- More blocks that belong to it. -/
theorem OCN.more {w : World} {base nb n : Nat} {P : Pl} {F : Fls} {Q : Nat → Prop} {v : Nat × Nat → Value} {l : Nat × Nat → List FE} (h : OCN w base nb n P F Q v l) (G : Nat → Prop) (hG : ∀ g, G g → (∃ cs, w.heap[g]? = some (.cells cs 68 (0, 0))) ∧ base ≤ g) : OCN w base nb n P F (fun b => Q b ∨ G b) v l :=
  { h with
    fam := h.fam.more G (fun b hb => by obtain ⟨cs, hc⟩ := (hG b hb).1; exact (Array.getElem?_eq_some_iff.1 hc).1) (fun b hb => (hG b hb).2) (fun x hx g hg hq => by
      obtain ⟨cs, hc⟩ := (h.fam.fod x hx).own.typ g (by simp [hg])
      obtain ⟨c2, hc2⟩ := (hG g hq).1
      rw [hc] at hc2
      simp at hc2)
    hQ := fun g hg => Or.inl (h.hQ g hg)
    fq := Or.inl h.fq
    dq := fun i hi => Or.inl (h.dq i hi) }

/-- The node that was built. -/
theorem ord_of {w3 w4 w5 : World} {e : Ending} {ss : List SE} {zc : List ZE} {u : Value} {m : List FE} {C fb cap : Nat} {fs : List FY} {zs : List FZ} (hr : FRow w3 C (.slice (some ⟨fb, 0, none⟩) fs.length cap) fs zs) (hC : C ≤ w3.heap.size) (hcap : fs.length ≤ cap ∧ cap ≤ maxLen ∧ fs.length ≤ 1048576)
    (hch : ChainOf ss w3 e w4) (k45 : Kept [] w4 w5) (f2 : Fod w5 w4.heap.size u m) (c2 : codes m = zc)
    (hpos : 0 < ss.length) (hlen : ss.length ≤ 1048576) (hg : ∀ s ∈ ss, GoodSp s) (hs : ∀ s ∈ ss, SmallE s) (gf : ∀ z ∈ zs, (GoodL z.2.1 ∧ z.2.1.length ≤ 1048576) ∧ GoodL z.2.2 ∧ z.2.2.length ≤ 1048576) (gc : GoodL zc) (hzc : zc.length ≤ 1048576) (G : Nat → Prop) (hG : ∀ g, G g → (∃ cs, w3.heap[g]? = some (.cells cs 68 (0, 0))) ∧ C ≤ g) :
    ∃ va vn vc ca m' cc po x, e = .returned (.agg (lvlOf va vn vc ca m' cc po x)) ∧ Kept [] w3 w4 ∧ ∀ w6 nb, Kept [] w5 w6 → w5.heap.size ≤ nb →
      (∃ (tcf : Value) (rest : List Value), w6.heap[nb]? = some (.cells (.slice (some ⟨fb, 0, none⟩) fs.length cap :: tcf :: u :: .slice va vn vc :: .slice none 0 0 :: .slice ca m' cc :: .pointer po :: nulI x :: .string ⟨#[120]⟩ :: .slice none 0 0 :: rest).toArray 63 (0, 0))) →
      ORd w6 C nb fb cap fs zs ss zc G := by
  obtain ⟨P, v, l, rfl, hrw, hn, k34⟩ := hch
  obtain ⟨va, vn, vc, po, hv0, hpo0, e⟩ := lvl_of hrw (ss.length - 1) (by omega)
  refine ⟨va, vn, vc, _, _, _, po, _, by rw [e], k34, fun w6 nb q hnb hn1 => ?_⟩
  obtain ⟨n, hnn⟩ : ∃ n, ss.length = n + 1 := ⟨ss.length - 1, by omega⟩
  have hn0 : ss.length - 1 = n := by omega
  rw [hn0] at hv0 hpo0 hn1
  obtain ⟨tcf, rest, hn1⟩ := hn1
  rw [← hv0, ← hpo0] at hn1
  have s34 := k34.size
  have s45 := k45.size
  have hr5 : Raw w5 w3.heap.size (n + 1) P v l := by
    have := hrw.kept k45
    rwa [hnn] at this
  have ownc : ∀ x, P.In (n + 1) x → ∀ g, (v x).ownBlock = some g → g < w4.heap.size := fun x hx g hg => (World.ownsRow.lt (hrw.fod x (by rw [hnn]; exact hx)) g hg).2
  have own2 : ∀ g, u.ownBlock = some g → w4.heap.size ≤ g := fun g hg => (World.ownsRow.lt f2 g hg).1
  have hoc := ocn_of hr (k34.trans k45) hC hcap hr5 (Nat.le_refl _) (by omega) q f2 (by omega) (fun x hx g hg e => by have := ownc x hx g hg; have := own2 g e; omega) hn1 hnb
  have lt3 : ∀ g, G g → g < w3.heap.size := fun g hg => by
    obtain ⟨cs, hc⟩ := (hG g hg).1
    exact (Array.getElem?_eq_some_iff.1 hc).1
  have hoc2 := hoc.more G (fun g hg => ⟨by
    obtain ⟨cs, hc⟩ := (hG g hg).1
    exact ⟨cs, ((k34.trans k45).trans q).heap hc (by simp)⟩, (hG g hg).2⟩)
  refine ⟨P.to n nb 3, _, _, _, by rw [hnn]; exact hoc2, ?_, by rw [hnn, ocL_c]; exact c2, ?_, hr.len.symm, ?_, hlen, by have := q.size; omega, fun g hg => ⟨Or.inr hg, fun x hx e => ?_⟩⟩
  rotate_right
  · have hl3 := lt3 g hg
    obtain ⟨cs, hcs⟩ := (hG g hg).1
    rw [hnn] at hx e
    rcases hx with hx | rfl | hx
    · rw [ocp_in hx, Pl.to_pos] at e
      by_cases hxn : x = (n, 0)
      · rw [if_pos hxn] at e
        dsimp only at e
        omega
      · rw [if_neg hxn] at e
        have := hr5.bs _ (hr5.fam.q x hx)
        omega
    · rw [ocp_c] at e
      dsimp only at e
      omega
    · obtain ⟨f, hf, -, -, hc⟩ := flPos fs fb cap (P.to n nb 3) (n + 1) nb hx.1 hx.2
      rcases hc with ⟨a, b, e2⟩ | ⟨a, b, e2⟩ | ⟨a, e2⟩ <;> rw [e2] at e <;> dsimp only at e
      · obtain ⟨c2, hc2⟩ := (hr.lit _ f hf b).1.typ
        rw [e, hcs] at hc2
        simp at hc2
      · obtain ⟨c2, hc2⟩ := hr.own.typ fb (by simp [Value.ownBlock])
        rw [e, hcs] at hc2
        simp at hc2
      · obtain ⟨c2, hc2⟩ := hr.own.typ fb (by simp [Value.ownBlock])
        rw [e, hcs] at hc2
        simp at hc2
  · intro i s hi hss
    obtain ⟨e1, e2, e3⟩ := hn i s hi hss
    refine ⟨e1, ?_, fun j d hd => ?_⟩
    · rw [ocL_in (P := P) (show P.In (n + 1) (i, 0) from ⟨by rw [← hnn]; exact hi, Nat.zero_le _⟩)]; exact e2
    · have hj : j < s.ifs.length := (List.getElem?_eq_some_iff.1 hd).1
      have hjm : j + 1 ≤ P.m i := by omega
      rw [ocL_in (P := P) (show P.In (n + 1) (i, j + 1) from ⟨by rw [← hnn]; exact hi, hjm⟩)]
      exact e3 j d hd
  · rw [hnn]
    intro i z hz
    rw [← hr.cod, List.getElem?_map] at hz
    obtain ⟨f, hf, rfl⟩ := Option.map_eq_some_iff.1 hz
    have hgd : fs.getD i default = f := by rw [List.getD_eq_getElem?_getD, hf]; rfl
    constructor
    · rw [ocL_f (by rfl)]
      unfold fL
      dsimp only
      rw [show 2 * i / 2 = i by omega, hgd, show ((2 * i) % 2 == 1) = false by simp]
      rfl
    · rw [ocL_f (by rfl)]
      unfold fL
      dsimp only
      rw [show (2 * i + 1) / 2 = i by omega, hgd, show ((2 * i + 1) % 2 == 1) = true by simp]
      rfl
  · intro x hx
    have len : ∀ {m : List FE} {d : List ZE}, codes m = d → m.length = d.length := fun e => by rw [← e]; simp [codes]
    rw [hnn] at hx
    rcases hx with hx | rfl | hx
    · have hxn : P.In ss.length x := by rw [hnn]; exact hx
      rw [ocL_in (P := P) hx]
      obtain ⟨a, b⟩ := hn.at hg hs x hxn
      exact ⟨a, by omega⟩
    · rw [ocL_c, c2, len c2]; exact ⟨gc, by omega⟩
    · rw [ocL_f hx.1]
      obtain ⟨f, hf, -, e2, -⟩ := flPos fs fb cap P (n + 1) nb hx.1 hx.2
      rw [e2]
      have hz : (f.str, codes f.lop, codes f.lot) ∈ zs := by rw [← hr.cod]; exact List.mem_map_of_mem (List.mem_of_getElem? hf)
      obtain ⟨⟨a1, a2⟩, a3, a4⟩ := gf _ hz
      dsimp only at a1 a2 a3 a4
      unfold FY.fod
      cases (x.2 % 2 == 1)
      · exact ⟨a1, by rw [← len rfl] at a2; simp only [Bool.false_eq_true, if_false]; omega⟩
      · exact ⟨a3, by rw [← len rfl] at a4; simp only [if_true]; omega⟩

set_option maxRecDepth 100000 in
theorem newObjectComp_any (w : World) (fa : Option Addr) (fn fc : Nat) (va : Option Addr) (vn vc : Nat) (ca : Option Addr) (m cc : Nat) (po : Option Addr) (x : Nat) (ka : Option Addr) (kn kc : Nat) :
    Calls Tryz.prog 25 #[.slice fa fn fc, .agg (lvlOf va vn vc ca m cc po x), .slice ka kn kc] w fun e w' => ∃ nb, e = .returned (.pointer (some ⟨nb, 0, none⟩)) ∧ w.heap.size ≤ nb ∧ Kept [] w w' ∧
      (∃ (tcf : Value) (rest : List Value), w'.heap[nb]? = some (.cells (.slice fa fn fc :: tcf :: .slice ka kn kc :: .slice va vn vc :: .slice none 0 0 :: .slice ca m cc :: .pointer po :: nulI x :: .string ⟨#[120]⟩ :: .slice none 0 0 :: rest).toArray 63 (0, 0))) := by
  unfold lvlOf
  go_enter Tryz.func25, Tryz.ntmps25
  go_wp2_with fail
  go_ret
  exact ⟨_, rfl, by simp, ((Kept.refl _ _).alloc _).alloc _, ⟨_, _, heap_new2 _ _ _⟩⟩

set_option maxRecDepth 100000 in
theorem fieldOpen_str (w : World) (nb lb n c i y : Nat) (a : Option Addr) (m k : Nat) (hi : i < n) (hl : w.cell? ⟨lb, i, none⟩ = some (.pointer (some ⟨y, 0, none⟩))) (hy : w.cell? ⟨y, 3, none⟩ = some (.slice a m k)) :
    Calls Tryz.prog 19 #[.pointer (some ⟨nb, 0, none⟩), .slice (some ⟨lb, 0, none⟩) n c, .int .i64 (i : Int)] w fun e w' => e = .returned (.slice a m k) ∧ w = w' := by
  have i1 : (0 : Int) ≤ (i : Int) := by omega
  have i2 : (i : Int) < (n : Int) := by omega
  go_enter Tryz.func19, Tryz.ntmps19
  go_wp2_with fail
  go_ret
  exact ⟨rfl, rfl⟩

set_option maxRecDepth 100000 in
theorem fieldOpen_id (w : World) (nb lb n c i fb m cap : Nat) (a : Option Addr) (m' k : Nat) (hi : i < n) (him : i < m) (hl : w.cell? ⟨lb, i, none⟩ = some (.pointer none)) (h0 : w.cell? ⟨nb, 0, none⟩ = some (.slice (some ⟨fb, 0, none⟩) m cap)) (hy : w.cell? ⟨fb, i * 18 + 3, none⟩ = some (.slice a m' k)) :
    Calls Tryz.prog 19 #[.pointer (some ⟨nb, 0, none⟩), .slice (some ⟨lb, 0, none⟩) n c, .int .i64 (i : Int)] w fun e w' => e = .returned (.slice a m' k) ∧ w = w' := by
  have i1 : (0 : Int) ≤ (i : Int) := by omega
  have i2 : (i : Int) < (n : Int) := by omega
  have i3 : (i : Int) < (m : Int) := by omega
  go_enter Tryz.func19, Tryz.ntmps19
  go_wp2_with fail
  go_ret
  exact ⟨rfl, rfl⟩
end Go.Proofs.YtgdipdbmllkckaaGreatFmt
