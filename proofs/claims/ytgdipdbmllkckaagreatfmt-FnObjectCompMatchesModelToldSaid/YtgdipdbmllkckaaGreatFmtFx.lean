/- A field that was laid, ahead of its append to the row; the literals' row beside it. -/
import Derived.Test.YtgdipdbmllkckaaGreatFmtFz
import Derived.Test.YtgdipdbmllkckaaGreatFmtOrd
import Derived.Test.YtgdipdbmllkckaaGreatFmtAsk
namespace Go.Proofs.YtgdipdbmllkckaaGreatFmt
open Go.ChangeShapes Go.WideShapes Go.ChangeAt Go.RowKit

theorem Kept.setRow {S : List Nat} {a w : World} (h : Kept S a w) {g : Nat} (hg : g ∈ S ∨ a.heap.size ≤ g) (cs : Array Value) : Kept S a (w.setRow g cs) := by
  refine ⟨h.os, h.tape, h.output, by simpa using h.size, fun k hk hn => ?_⟩
  rw [setRow_other _ _ _ _ (by intro e; subst e; rcases hg with h1 | h1; exact hn h1; omega)]
  exact h.block k hk hn

/-- One fodder that was laid behind w0. -/
structure PB1 (w0 w : World) (v : Value) (l : List FE) : Prop where
  k : Kept [] w0 w
  f : Fod w w0.heap.size v l
/-- Two of them. -/
structure PB2 (w0 w : World) (v : Value) (l : List FE) (u : Value) (m : List FE) : Prop where
  k : Kept [] w0 w
  f : Fod w w0.heap.size v l
  t : Fod w w0.heap.size u m
  dj : ∀ x, v.ownBlock = some x → u.ownBlock ≠ some x
theorem PB1.of {w0 w w1 : World} {v : Value} {l : List FE} (q : Kept [] w0 w) (f : Fod w1 w.heap.size v l) (k : Kept [] w w1) : PB1 w0 w1 v l := ⟨q.trans k, f.low q.size⟩
theorem PB1.two {w0 w w1 w2 : World} {v : Value} {l : List FE} (h : PB1 w0 w v l) (q : Kept [] w w1) {u : Value} {m : List FE} (f : Fod w2 w1.heap.size u m) (k : Kept [] w1 w2) : PB2 w0 w2 v l u m :=
  ⟨(h.k.trans q).trans k, h.f.kept (q.trans k) (by simp), f.low (h.k.trans q).size, fun x hx e => by
    have h1 := (World.ownsRow.lt h.f x hx).2
    have h2 := (World.ownsRow.lt f x e).1
    have h3 := q.size
    omega⟩
/-- A field that was laid behind w0. -/
structure FX (w0 w : World) (f : FY) : Prop where
  k : Kept [] w0 w
  n : NulT w f.d
  nd : w0.heap.size ≤ f.d
  l : f.str = true → LitT w f.y f.op.val ∧ w0.heap.size ≤ f.y
  o : Fod w w0.heap.size f.op.val f.lop
  t : Fod w w0.heap.size f.ot.val f.lot
  dj : ∀ x, f.op.val.ownBlock = some x → f.ot.val.ownBlock ≠ some x
theorem FX.kept {w0 w w' : World} {f : FY} (h : FX w0 w f) (q : Kept [] w w') : FX w0 w' f :=
  ⟨h.k.trans q, h.n.kept0 q, h.nd, fun hs => ⟨(h.l hs).1.kept0 q, (h.l hs).2⟩, h.o.kept q (by simp), h.t.kept q (by simp), h.dj⟩
theorem PB2.str {w0 w w1 w2 : World} {op ot : Trip} {lop lot : List FE} (h : PB2 w0 w op.val lop ot.val lot) (q : Kept [] w w1) (k : Kept [] w1 w2) {y d : Nat} (hn : NulT w2 d) (hd : w1.heap.size ≤ d) (hl : LitT w2 y op.val) (hy : w1.heap.size ≤ y) (idp : Option Addr) : FX w0 w2 ⟨true, y, d, idp, op, lop, ot, lot⟩ :=
  ⟨(h.k.trans q).trans k, hn, by have := h.k.size; have := q.size; show _ ≤ d; omega, fun _ => ⟨hl, by have := h.k.size; have := q.size; show _ ≤ y; omega⟩, h.f.kept (q.trans k) (by simp), h.t.kept (q.trans k) (by simp), h.dj⟩
theorem PB2.id {w0 w w1 w2 : World} {op ot : Trip} {lop lot : List FE} (h : PB2 w0 w op.val lop ot.val lot) (q : Kept [] w w1) (k : Kept [] w1 w2) {d : Nat} (hn : NulT w2 d) (hd : w1.heap.size ≤ d) (y : Nat) (idp : Option Addr) : FX w0 w2 ⟨false, y, d, idp, op, lop, ot, lot⟩ :=
  ⟨(h.k.trans q).trans k, hn, by have := h.k.size; have := q.size; show _ ≤ d; omega, fun e => (by cases e), h.f.kept (q.trans k) (by simp), h.t.kept (q.trans k) (by simp), h.dj⟩
/-- It is stored into a block that was laid behind w0 too. -/
theorem FX.storeAt {w0 w : World} {f : FY} (h : FX w0 w f) {g : Nat} {cs : Array Value} (hg : w.heap[g]? = some (.cells cs 74 (0, 0))) (h0 : w0.heap.size ≤ g) (vs : Array Value) :
    FX w0 (w.setRow g vs) f ∧ (w.setRow g vs).heap[g]? = some (.cells vs 74 (0, 0)) := by
  have q : Kept [g] w (w.setRow g vs) := (Kept.refl _ _).setRow (Or.inl (by simp)) vs
  have ne : (74 : Nat) ≠ 98 := by decide
  have ty : ∀ b ∈ [g], ∃ cs, w.heap[b]? = some (.cells cs 74 (0, 0)) := fun b hb => by
    obtain rfl : b = g := by simpa using hb
    exact ⟨_, hg⟩
  refine ⟨⟨h.k.then q (fun b hb => Or.inr (by rw [List.mem_singleton.1 hb]; exact h0)), ?_, h.nd, fun hs => ⟨?_, (h.l hs).2⟩, (h.o.own.keptT q ty ne).fod, (h.t.own.keptT q ty ne).fod, h.dj⟩, setRow_heap _ _ _ _ _ _ hg⟩
  · refine h.n.keptS q (fun hm => ?_)
    obtain rfl : f.d = g := by simpa using hm
    have h1 := h.n
    unfold NulT at h1
    rw [hg] at h1
    simp at h1
  · refine (h.l hs).1.keptS q (fun hm => ?_)
    obtain rfl : f.y = g := by simpa using hm
    obtain ⟨c, h1⟩ := (h.l hs).1.typ
    rw [hg] at h1
    simp at h1
theorem FX.allocAt {w0 w : World} {f : FY} (h : FX w0 w f) (vs : Array Value) :
    FX w0 (w.alloc (.cells vs 74)) f ∧ (w.alloc (.cells vs 74)).heap[w.heap.size]? = some (.cells vs 74 (0, 0)) :=
  ⟨h.kept ((Kept.refl _ _).alloc _), heap_alloc_new w _⟩

/-- One more field at the row's end. -/
theorem FRow.add {w0 w w' : World} {C : Nat} {v v' : Value} {fs : List FY} {zs : List (Bool × List ZE × List ZE)} {f : FY} (h : FRow w0 C v fs zs) (hC : C ≤ w0.heap.size) (x : FX w0 w f)
    (hn : OwnR 74 18 encF w' C v' (fs ++ [f])) (q : Kept v.ownBlock.toList w w') : FRow w' C v' (fs ++ [f]) (zs ++ [(f.str, codes f.lop, codes f.lot)]) := by
  have ne : (74 : Nat) ≠ 98 := by decide
  have ty := (h.own.kept0 x.k).typ
  have fo : ∀ {u : Value} {m : List FE} {b : Nat}, Fod w b u m → Fod w' b u m := fun hf => (hf.own.keptT q ty ne).fod
  have nn : ∀ {y : Nat}, NulT w y → y ∉ v.ownBlock.toList := fun {y} hx hm => by
    obtain ⟨cs, hcs⟩ := ty y hm
    unfold NulT at hx
    rw [hx] at hcs
    simp at hcs
  have nl : ∀ {y : Nat} {u : Value}, LitT w y u → y ∉ v.ownBlock.toList := fun {y u} hx hm => by
    obtain ⟨cs, hcs⟩ := ty y hm
    obtain ⟨cs2, hc2⟩ := hx.typ
    rw [hc2] at hcs
    simp at hcs
  have fv : ∀ b, Fod w w0.heap.size (f.val b) (f.fod b) := fun b => by
    cases b
    · exact x.o
    · exact x.t
  have fhi : ∀ b y, (f.val b).ownBlock = some y → w0.heap.size ≤ y := fun b y hx => (World.ownsRow.lt (fv b) y hx).1
  have flo : ∀ (j : Nat) g, fs[j]? = some g → ∀ b y, (g.val b).ownBlock = some y → y < w0.heap.size := fun j g hg b y hx => (World.ownsRow.lt (h.fo j g hg b) y hx).2
  refine ⟨hn, fun j g hg => ?_, fun j g hg hs => ?_, fun j g hg b => ?_, by rw [List.map_append, h.cod]; rfl, fun i j g1 g2 hg1 hg2 hij e1 e2 => ?_, fun i j g1 g2 a b hg1 hg2 hij y hw => ?_⟩
  · rcases get_snoc hg with ⟨a, _⟩ | ⟨_, rfl⟩
    · have hq := (h.nul j g a).1.kept0 x.k
      exact ⟨hq.keptS q (nn hq), (h.nul j g a).2⟩
    · exact ⟨x.n.keptS q (nn x.n), Nat.le_trans hC x.nd⟩
  · rcases get_snoc hg with ⟨a, _⟩ | ⟨_, rfl⟩
    · have hq := (h.lit j g a hs).1.kept0 x.k
      exact ⟨hq.keptS q (nl hq), (h.lit j g a hs).2⟩
    · have hq := (x.l hs).1
      exact ⟨hq.keptS q (nl hq), Nat.le_trans hC (x.l hs).2⟩
  · rcases get_snoc hg with ⟨a, _⟩ | ⟨_, rfl⟩
    · exact fo ((h.fo j g a b).kept x.k (by simp))
    · exact fo ((fv b).low hC)
  · rcases get_snoc hg1 with ⟨c, c2⟩ | ⟨c, rfl⟩
    · rcases get_snoc hg2 with ⟨d, _⟩ | ⟨d, rfl⟩
      · exact h.yi i j g1 g2 c d hij e1 e2
      · have h3 := (x.l e2).2
        have h4 := (Array.getElem?_eq_some_iff.1 (h.lit i g1 c e1).1.typ.choose_spec).1
        omega
    · rcases get_snoc hg2 with ⟨d, d2⟩ | ⟨d, rfl⟩
      · omega
      · omega
  · rcases get_snoc hg1 with ⟨c, c2⟩ | ⟨c, rfl⟩
    · rcases get_snoc hg2 with ⟨d, _⟩ | ⟨d, rfl⟩
      · exact h.dj i j g1 g2 a b c d hij y hw
      · intro e
        have h3 := flo i g1 c a y hw
        have h4 := fhi b y e
        omega
    · rcases get_snoc hg2 with ⟨d, _⟩ | ⟨d, rfl⟩
      · intro e
        have h3 := flo j g2 d b y e
        have h4 := fhi a y hw
        omega
      · subst c d
        intro e
        have hab : a ≠ b := fun e => hij (by rw [e])
        cases a <;> cases b
        · exact hab rfl
        · exact x.dj y hw e
        · exact x.dj y e hw
        · exact hab rfl

/-- The literal that a field named by a string hands out. -/
def litP (f : FY) : Option Addr := if f.str then some ⟨f.y, 0, none⟩ else none
def encLP (f : FY) : List Value := [.pointer (litP f)]
theorem encLP_len (f : FY) : (encLP f).length = 1 := rfl
theorem encLP_one (f : FY) : ∀ u ∈ encLP f, u.oneCell' = true := by
  intro u hu
  simp only [encLP, List.mem_cons, List.not_mem_nil, or_false] at hu
  subst hu; rfl
/-- A change of blocks of literal pointers leaves the fields. -/
theorem FRow.keptL {w w' : World} {S : List Nat} {C : Nat} {v : Value} {fs : List FY} {zs : List (Bool × List ZE × List ZE)} (h : FRow w C v fs zs) (q : Kept S w w') (hS : ∀ g ∈ S, ∃ cs, w.heap[g]? = some (.cells cs 68 (0, 0))) : FRow w' C v fs zs := by
  have n1 : (68 : Nat) ≠ 74 := by decide
  have n2 : (68 : Nat) ≠ 98 := by decide
  refine ⟨h.own.keptT q hS n1, fun j f hf => ⟨(h.nul j f hf).1.keptS q (fun hm => ?_), (h.nul j f hf).2⟩, fun j f hf hs => ⟨(h.lit j f hf hs).1.keptS q (fun hm => ?_), (h.lit j f hf hs).2⟩, fun j f hf b => ((h.fo j f hf b).own.keptT q hS n2).fod, h.cod, h.yi, h.dj⟩
  · obtain ⟨cs, h1⟩ := hS _ hm
    have h2 := (h.nul j f hf).1
    unfold NulT at h2
    rw [h1] at h2
    simp at h2
  · obtain ⟨cs, h1⟩ := hS _ hm
    obtain ⟨cs2, h2⟩ := (h.lit j f hf hs).1.typ
    rw [h1] at h2
    simp at h2

theorem OCN.inj {w : World} {base nb n : Nat} {P : Pl} {F : Fls} {Q : Nat → Prop} {v : Nat × Nat → Value} {l : Nat × Nat → List FE} (h : OCN w base nb n P F Q v l) : ∀ i j, i < n → j < n → P.out (i + 1) = P.out (j + 1) → i = j := by
  intro i j hi hj e
  rw [P.out_succ, P.out_succ] at e
  by_cases hij : i = j
  · exact hij
  · have hx : P.In n (i, 0) := ⟨hi, Nat.zero_le _⟩
    have hy : P.In n (j, 0) := ⟨hj, Nat.zero_le _⟩
    have := h.fam.inj (i, 0) (j, 0) (Or.inl hx) (Or.inl hy) (by simp; exact hij)
    rw [ocp_in hx, ocp_in hy, P.pos0, P.pos0] at this
    exfalso
    apply this
    simp at e
    rw [e.1, e.2]

theorem ORd.len {w : World} {base nb fb cap : Nat} {fs : List FY} {zs : List FZ} {ws : List SE} {zc : List ZE} {G : Nat → Prop} (h : ORd w base nb fb cap fs zs ws zc G) : zs.length = fs.length := by
  obtain ⟨P, Q, v, l, h1, h2, h3, h4, h5, h6, h7, h8, h9⟩ := h
  exact h5

/-- The block of such a row is as it was. -/
theorem OwnR.heap {α : Type} {T c : Nat} {enc : α → List Value} {w w' : World} {base : Nat} {v : Value} {l : List α} (h : OwnR T c enc w base v l) (hg : ∀ g, v.ownBlock = some g → w'.heap[g]? = w.heap[g]?) : OwnR T c enc w' base v l := by
  refine ⟨h.1, ?_⟩
  rcases h.2 with h1 | ⟨g, cap, cur, rfl, hbg, hc, r⟩
  · exact Or.inl h1
  · exact Or.inr ⟨g, cap, cur, rfl, hbg, (hg g rfl).trans hc, r⟩

/-- The fodder ahead of field i, as the law reads it. -/
theorem fieldOpen_any (w : World) (nb lb n c i fb cap : Nat) (f : FY) (a : Option Addr) (m k : Nat) (hi : i < n) (hl : w.cell? ⟨lb, i, none⟩ = some (.pointer (litP f))) (h0 : w.cell? ⟨nb, 0, none⟩ = some (.slice (some ⟨fb, 0, none⟩) n cap)) (hy : w.cell? (if f.str then ⟨f.y, 3, none⟩ else ⟨fb, i * 18 + 3, none⟩) = some (.slice a m k)) :
    Calls Tryz.prog 19 #[.pointer (some ⟨nb, 0, none⟩), .slice (some ⟨lb, 0, none⟩) n c, .int .i64 (i : Int)] w fun e w' => e = .returned (.slice a m k) ∧ w = w' := by
  unfold litP at hl
  cases hs : f.str
  · rw [hs] at hl hy
    exact fieldOpen_id w nb lb n c i fb n cap a m k hi hi hl h0 hy
  · rw [hs] at hl hy
    exact fieldOpen_str w nb lb n c i f.y a m k hi hl hy
/-- The literals' row: its block, and its cells. -/
theorem lits_at {w : World} {base : Nat} {la : Option Addr} {n lc : Nat} {fs : List FY} (h : OwnR 68 1 encLP w base (.slice la n lc) fs) (hn : fs.length = n) (h0 : 0 < n) : n ≤ lc ∧ lc ≤ maxLen ∧ ∃ lb, la = some ⟨lb, 0, none⟩ ∧ ∀ w', (∀ S, Kept S w w' → lb ∉ S → ∀ (i : Nat) f, fs[i]? = some f → w'.cell? ⟨lb, i, none⟩ = some (.pointer (litP f))) := by
  obtain ⟨a', cap', hv, h1, h2, hat⟩ := h.slice
  injection hv with e1 e2 e3
  subst e1 e2 e3
  obtain ⟨lb, rfl, _⟩ := hat 0 (by omega)
  refine ⟨h1, h2, lb, rfl, fun w' S q hS i f hf => q.cell ?_ hS⟩
  obtain ⟨hi, e⟩ := List.getElem?_eq_some_iff.1 hf
  have := h.cell encLP_len i hi 0 (by omega)
  rw [Nat.mul_one, Nat.add_zero, e] at this
  exact this
end Go.Proofs.YtgdipdbmllkckaaGreatFmt
