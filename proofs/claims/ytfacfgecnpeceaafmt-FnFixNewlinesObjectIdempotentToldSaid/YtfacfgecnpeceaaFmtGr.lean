/- The fields of an object under construction, as n008_124's zzBuildObject lays them; the object that was built. -/
import Derived.Test.YtfacfgecnpeceaaFmtGy
import Derived.Test.YtfacfgecnpeceaaFmtZ4b
namespace Go.Proofs.YtfacfgecnpeceaaFmt
open Go.ChangeShapes Go.WideShapes Go.ChangeAt Go.RowKit

abbrev Trip := Option Addr × Nat × Nat
def Trip.val (t : Trip) : Value := .slice t.1 t.2.1 t.2.2
/-- A field: its kind, its name's block, its body's, its identifier, the opening fodder's slice and fodder, the other's. -/
structure GY where
  kd : Int
  y : Nat
  d : Nat
  idp : Option Addr
  op : Trip
  lop : List FE
  ot : Trip
  lot : List FE
  deriving Inhabited
def e1Y (f : GY) : Value := if f.kd = 3 then litS f.y else if f.kd = 2 then varS f.y else .nilIface
def encG (f : GY) : List Value := [.pointer none, .pointer f.idp, (if f.kd = 3 then .slice none 0 0 else f.ot.val), (if f.kd = 3 then f.ot.val else f.op.val), .slice none 0 0, .slice none 0 0, e1Y f, varS f.d, .nilIface, .pointer none, .string ⟨#[]⟩, .int .i64 0, .int .i64 0, .int .i64 0, .int .i64 0, .int .i64 f.kd, .int .i64 0, .bool false]
theorem encG_len (f : GY) : (encG f).length = 18 := rfl
theorem encG_one (f : GY) : ∀ x ∈ encG f, x.oneCell' = true := by
  intro x hx
  obtain ⟨s, y, d, i, op, lop, ot, lot⟩ := f
  simp only [encG, e1Y, List.mem_cons, List.not_mem_nil, or_false] at hx
  rcases hx with rfl | rfl | rfl | rfl | rfl | rfl | rfl | rfl | rfl | rfl | rfl | rfl | rfl | rfl | rfl | rfl | rfl | rfl <;> (try split) <;> (try split) <;> rfl
def GY.val (f : GY) (b : Bool) : Value := if b then f.ot.val else f.op.val
def GY.fod (f : GY) (b : Bool) : List FE := if b then f.lot else f.lop
/-- A variable without a fodder; a string literal with this fodder. -/
def VarT (w : World) (x : Nat) : Prop := ∃ (c0 : Value) (rest : List Value), w.heap[x]? = some (.cells (c0 :: .slice none 0 0 :: rest).toArray 63 (0, 0))
theorem VarT.kept {S : List Nat} {w w' : World} {x : Nat} (h : VarT w x) (q : Kept S w w') (hn : x ∉ S) : VarT w' x := by
  obtain ⟨c0, r, h⟩ := h
  exact ⟨c0, r, q.heap h hn⟩
theorem VarT.typ {w : World} {x : Nat} (h : VarT w x) : ∃ cs, w.heap[x]? = some (.cells cs 63 (0, 0)) := by
  obtain ⟨c0, r, h⟩ := h
  exact ⟨_, h⟩
theorem VarT.at {w : World} {x : Nat} (h : VarT w x) : AtVar w x := by
  obtain ⟨c0, r, h⟩ := h
  exact ⟨cell_of_block h 1, frozen_of_block h 1⟩
theorem VarT.lt {w : World} {x : Nat} (h : VarT w x) : x < w.heap.size := by
  obtain ⟨cs, h⟩ := h.typ
  exact (Array.getElem?_eq_some_iff.1 h).1
def LitT (w : World) (y : Nat) (u : Value) : Prop := ∃ (c0 c1 c2 : Value) (rest : List Value), w.heap[y]? = some (.cells (c0 :: c1 :: c2 :: u :: rest).toArray 67 (0, 0))
theorem LitT.kept {S : List Nat} {w w' : World} {y : Nat} {u : Value} (h : LitT w y u) (q : Kept S w w') (hn : y ∉ S) : LitT w' y u := by
  obtain ⟨c0, c1, c2, r, h⟩ := h
  exact ⟨c0, c1, c2, r, q.heap h hn⟩
theorem LitT.typ {w : World} {y : Nat} {u : Value} (h : LitT w y u) : ∃ cs, w.heap[y]? = some (.cells cs 67 (0, 0)) := by
  obtain ⟨c0, c1, c2, r, h⟩ := h
  exact ⟨_, h⟩
theorem LitT.lt {w : World} {y : Nat} {u : Value} (h : LitT w y u) : y < w.heap.size := by
  obtain ⟨cs, h⟩ := h.typ
  exact (Array.getElem?_eq_some_iff.1 h).1
theorem LitT.cell {w : World} {y : Nat} {u : Value} (h : LitT w y u) : w.cell? ⟨y, 3, none⟩ = some u ∧ w.frozen? ⟨y, 3, none⟩ = false := by
  obtain ⟨c0, c1, c2, r, h⟩ := h
  exact ⟨cell_of_block h 3, frozen_of_block h 3⟩
theorem fod_typ {w : World} {base : Nat} {v : Value} {l : List FE} (h : Fod w base v l) (g : Nat) (hg : v.ownBlock = some g) : ∃ cs, w.heap[g]? = some (.cells cs 87 (0, 0)) := by
  obtain ⟨_, h | ⟨g', cap, cur, hv, hb, hh, _⟩⟩ := h
  · obtain ⟨rfl, _⟩ := h
    simp [Value.ownBlock] at hg
  · subst hv
    simp [Value.ownBlock] at hg
    subst hg
    exact ⟨_, hh⟩
theorem blk_ne {w : World} {a b : Nat} {cs ds : Array Value} {t u : TypeId} (h : w.heap[a]? = some (.cells cs t (0, 0))) (k : w.heap[b]? = some (.cells ds u (0, 0))) (e : t ≠ u) : a ≠ b := by
  intro hab
  subst hab
  rw [h] at k
  simp at k
  exact e k.2

/-- What one field is known by, behind C. -/
structure GF (w : World) (C : Nat) (f : GY) : Prop where
  kds : f.kd = 1 ∨ f.kd = 2 ∨ f.kd = 3
  d : VarT w f.d ∧ C ≤ f.d
  y2 : f.kd = 2 → VarT w f.y ∧ C ≤ f.y
  y3 : f.kd = 3 → LitT w f.y f.op.val ∧ C ≤ f.y
  fo : ∀ b, Fod w C (f.val b) (f.fod b)
  dj : ∀ g, f.op.val.ownBlock = some g → f.ot.val.ownBlock ≠ some g
  kn : ∀ b, Kinds (f.fod b) ∧ (f.fod b).length ≤ 1048576
theorem GF.kept {S : List Nat} {w w' : World} {C : Nat} {f : GY} (h : GF w C f) (q : Kept S w w') (hS : ∀ g ∈ S, g < C) : GF w' C f where
  kds := h.kds
  d := ⟨h.d.1.kept q (fun hm => by have := hS _ hm; have := h.d.2; omega), h.d.2⟩
  y2 := fun e => ⟨(h.y2 e).1.kept q (fun hm => by have := hS _ hm; have := (h.y2 e).2; omega), (h.y2 e).2⟩
  y3 := fun e => ⟨(h.y3 e).1.kept q (fun hm => by have := hS _ hm; have := (h.y3 e).2; omega), (h.y3 e).2⟩
  fo := fun b => (h.fo b).kept q (fun g hg hm => by have := hS _ hm; have := (World.ownsRow.lt (h.fo b) g hg).1; omega)
  dj := h.dj
  kn := h.kn
theorem GF.low {w : World} {C C' : Nat} {f : GY} (h : GF w C f) (hc : C' ≤ C) : GF w C' f where
  kds := h.kds
  d := ⟨h.d.1, Nat.le_trans hc h.d.2⟩
  y2 := fun e => ⟨(h.y2 e).1, Nat.le_trans hc (h.y2 e).2⟩
  y3 := fun e => ⟨(h.y3 e).1, Nat.le_trans hc (h.y3 e).2⟩
  fo := fun b => (h.fo b).low hc
  dj := h.dj
  kn := h.kn

/-- The row of fields at fb, the row of literals at lb: the first of them are laid; all that they lead to lies behind C. -/
structure GRow (w : World) (B C fb lb n : Nat) (fs : List GY) : Prop where
  bf : B ≤ fb ∧ fb < C
  bl : B ≤ lb ∧ lb < C
  ne : fb ≠ lb
  sz : C ≤ w.heap.size
  le : fs.length ≤ n
  th : w.there fb 0 (n * 18)
  cells : ∀ (j : Nat) f, fs[j]? = some f → w.rangeAt fb (j * 18) (encG f)
  lth : w.there lb 0 n
  lits : ∀ j, j < n → w.cell? ⟨lb, j, none⟩ = some (.pointer (match fs[j]? with | some f => if f.kd = 3 then some ⟨f.y, 0, none⟩ else none | none => none))
  gf : ∀ (j : Nat) f, fs[j]? = some f → GF w C f
  yi : ∀ (i j : Nat) f g, fs[i]? = some f → fs[j]? = some g → i < j → f.kd = 3 → g.kd = 3 → f.y < g.y
  dj : ∀ (i j : Nat) f g (a b : Bool), fs[i]? = some f → fs[j]? = some g → i ≠ j → ∀ x, (f.val a).ownBlock = some x → (g.val b).ownBlock ≠ some x
theorem GRow.kept {w w' : World} {B C fb lb n : Nat} {fs : List GY} (h : GRow w B C fb lb n fs) (q : Kept [] w w') : GRow w' B C fb lb n fs where
  bf := h.bf
  bl := h.bl
  ne := h.ne
  sz := Nat.le_trans h.sz q.size
  le := h.le
  th := fun j hj => by
    obtain ⟨h1, h2⟩ := h.th j hj
    obtain ⟨u, hu⟩ := Option.isSome_iff_exists.1 h1
    exact ⟨by rw [q.cell hu (by simp)]; rfl, (q.frozen (World.block_lt_of_cell? w _ hu) (by simp)).trans h2⟩
  cells := fun j f hf i u hu => q.cell (h.cells j f hf i u hu) (by simp)
  lth := fun j hj => by
    obtain ⟨h1, h2⟩ := h.lth j hj
    obtain ⟨u, hu⟩ := Option.isSome_iff_exists.1 h1
    exact ⟨by rw [q.cell hu (by simp)]; rfl, (q.frozen (World.block_lt_of_cell? w _ hu) (by simp)).trans h2⟩
  lits := fun j hj => q.cell (h.lits j hj) (by simp)
  gf := fun j f hf => (h.gf j f hf).kept q (by simp)
  yi := h.yi
  dj := h.dj
theorem get_snoc {α : Type} {l : List α} {x y : α} {j : Nat} (h : (l ++ [x])[j]? = some y) : (l[j]? = some y ∧ j < l.length) ∨ (j = l.length ∧ y = x) := by
  by_cases hj : j < l.length
  · rw [List.getElem?_append_left hj] at h
    exact Or.inl ⟨h, hj⟩
  · rw [List.getElem?_append_right (by omega)] at h
    by_cases h0 : j - l.length = 0
    · rw [h0] at h
      simp at h
      exact Or.inr ⟨by omega, h.symm⟩
    · rw [List.getElem?_eq_none (by simp; omega)] at h
      cases h
/-- A store keeps all but its block. -/
theorem Kept.setCells {w w' : World} (h : Kept [] w w') (b o : Nat) (vs : List Value) : Kept [b] w (w'.setCells b o vs) := by
  have := World.keptBut_setCells b (may := fun _ => True) vs o w' (fun _ _ => trivial)
  have key : ∀ (vs : List Value) (o : Nat) (w' : World), Kept [] w w' ∨ Kept [b] w w' → Kept [b] w (w'.setCells b o vs) := by
    intro vs
    induction vs with
    | nil => intro o w' h; exact h.elim (fun h => h.mono (by simp)) id
    | cons v vs ih =>
      intro o w' h
      refine ih (o + 1) _ (Or.inr ?_)
      exact (h.elim (fun h => h.mono (by simp)) id).setCell (p := ⟨b, o, none⟩) (Or.inl (by simp)) v
  exact key vs o w' (Or.inl h)
/-- One field more: at w1 (behind a literal's store, if it has one) it is stored. -/
theorem GRow.step {w w1 : World} {B C fb lb n : Nat} {fs : List GY} {f : GY} (h : GRow w B C fb lb n fs) (hn : fs.length < n) (q : Kept [lb] w w1) (x : GF w1 w.heap.size f) (ho : ∀ j, j ≠ fs.length → w1.cell? ⟨lb, j, none⟩ = w.cell? ⟨lb, j, none⟩)
    (hl : w1.cell? ⟨lb, fs.length, none⟩ = some (.pointer (if f.kd = 3 then some ⟨f.y, 0, none⟩ else none))) (hfz : ∀ j, w1.frozen? ⟨lb, j, none⟩ = w.frozen? ⟨lb, j, none⟩) : GRow (w1.setCells fb (fs.length * 18) (encG f)) B C fb lb n (fs ++ [f]) := by
  have k2 : Kept [fb] w1 (w1.setCells fb (fs.length * 18) (encG f)) := (Kept.refl _ _).setCells _ _ _
  have nbf : fb ∉ [lb] := by simp; exact h.ne
  have nlb : lb ∉ [fb] := by simp; exact fun e => h.ne e.symm
  have th1 : w1.there fb 0 (n * 18) := fun j hj => by
    obtain ⟨h1, h2⟩ := h.th j hj
    obtain ⟨u, hu⟩ := Option.isSome_iff_exists.1 h1
    exact ⟨by rw [q.cell hu nbf]; rfl, (q.frozen (World.block_lt_of_cell? w _ hu) nbf).trans h2⟩
  have hthr : w1.there fb (fs.length * 18) (encG f).length := fun j hj => by
    rw [encG_len] at hj
    have := th1 (fs.length * 18 + j) (by omega)
    rwa [Nat.zero_add] at this
  have lold : ∀ j, (w1.setCells fb (fs.length * 18) (encG f)).cell? ⟨lb, j, none⟩ = w1.cell? ⟨lb, j, none⟩ := fun j => World.cell?_setCells_out fb _ _ _ _ (fun e => absurd e.symm h.ne)
  have hsz : C ≤ w1.heap.size := Nat.le_trans h.sz q.size
  have hC := h.sz
  refine ⟨h.bf, h.bl, h.ne, Nat.le_trans hsz k2.size, by simp; omega, World.there_setCells th1 _ _ _, fun j g hg => ?_, fun j hj => ?_, fun j hj => ?_, fun j g hg => ?_, fun i j g1 g2 hg1 hg2 hij e1 e2 => ?_, fun i j g1 g2 a b hg1 hg2 hij y hy => ?_⟩
  · rcases get_snoc hg with ⟨hg, hjl⟩ | ⟨rfl, rfl⟩
    · refine World.rangeAt_setCells_apart (fun i u hu => q.cell (h.cells j g hg i u hu) nbf) _ _ _ (Or.inr (Or.inl ?_))
      rw [encG_len]; omega
    · exact World.rangeAt_setCells_same _ _ _ _ hthr
  · obtain ⟨h1, h2⟩ := h.lth j hj
    rw [Nat.zero_add] at h1 h2 ⊢
    rw [lold, World.frozen?_setCells, hfz]
    refine ⟨?_, h2⟩
    by_cases hjn : j = fs.length
    · subst hjn; rw [hl]; rfl
    · rw [ho j hjn]; exact h1
  · rw [lold]
    by_cases hjn : j = fs.length
    · subst hjn
      rw [hl, List.getElem?_append_right (Nat.le_refl _), Nat.sub_self]
      rfl
    · rw [ho j hjn, h.lits j hj]
      by_cases hlt : j < fs.length
      · rw [List.getElem?_append_left hlt]
      · rw [List.getElem?_eq_none (by omega : fs.length ≤ j), List.getElem?_eq_none (by simp; omega)]
  · rcases get_snoc hg with ⟨hg, -⟩ | ⟨-, rfl⟩
    · exact ((h.gf j g hg).kept q (by simp; exact h.bl.2)).kept k2 (by simp; exact h.bf.2)
    · exact (x.low h.sz).kept k2 (by simp; exact h.bf.2)
  · rcases get_snoc hg1 with ⟨c, c2⟩ | ⟨c, rfl⟩
    · rcases get_snoc hg2 with ⟨d, _⟩ | ⟨d, rfl⟩
      · exact h.yi i j g1 g2 c d hij e1 e2
      · have h3 := (x.y3 e2).2
        have h4 := ((h.gf i g1 c).y3 e1).1.lt
        omega
    · rcases get_snoc hg2 with ⟨d, d2⟩ | ⟨d, rfl⟩
      · omega
      · omega
  · have lo : ∀ (j : Nat) g, fs[j]? = some g → ∀ b z, (g.val b).ownBlock = some z → z < w.heap.size := fun j g hg b z hz => (World.ownsRow.lt ((h.gf j g hg).fo b) z hz).2
    have hi : ∀ b z, (f.val b).ownBlock = some z → w.heap.size ≤ z := fun b z hz => (World.ownsRow.lt (x.fo b) z hz).1
    rcases get_snoc hg1 with ⟨c, c2⟩ | ⟨c, rfl⟩
    · rcases get_snoc hg2 with ⟨d, _⟩ | ⟨d, rfl⟩
      · exact h.dj i j g1 g2 a b c d hij y hy
      · intro e
        have h3 := lo i g1 c a y hy
        have h4 := hi b y e
        omega
    · rcases get_snoc hg2 with ⟨d, d2⟩ | ⟨d, rfl⟩
      · intro e
        have h3 := lo j g2 d b y e
        have h4 := hi a y hy
        omega
      · omega
end Go.Proofs.YtfacfgecnpeceaaFmt
