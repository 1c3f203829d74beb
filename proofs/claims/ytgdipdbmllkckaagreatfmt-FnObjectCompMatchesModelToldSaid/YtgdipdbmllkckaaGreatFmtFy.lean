/- The fields of an object comprehension under construction; the contracts of n008_142's ZZnewIDField, ZZnewStrField, ZZnewObjectComp. -/
import Derived.Test.YtgdipdbmllkckaaGreatFmtOcf
import Derived.Test.YtgdipdbmllkckaaGreatFmtFL
import Derived.Test.YtgdipdbmllkckaaGreatFmtAb
namespace Go.Proofs.YtgdipdbmllkckaaGreatFmt
open Go.ChangeShapes Go.WideShapes Go.ChangeAt Go.RowKit

/-- A field: is it named by a string, its literal's block, its body's, its identifier, the opening fodder's slice and fodder, the operator's. -/
structure FY where
  str : Bool
  y : Nat
  d : Nat
  idp : Option Addr
  op : Trip
  lop : List FE
  ot : Trip
  lot : List FE
  deriving Inhabited
def encF (f : FY) : List Value := [.pointer none, .pointer f.idp, .slice none 0 0, (if f.str then .slice none 0 0 else f.op.val), f.ot.val, .slice none 0 0, (if f.str then litS f.y else .nilIface), nulI f.d, .nilIface, .pointer none, .string ⟨#[]⟩, .int .i64 0, .int .i64 0, .int .i64 0, .int .i64 0, .int .i64 (if f.str then 3 else 1), .int .i64 1, .bool false]
theorem encF_len (f : FY) : (encF f).length = 18 := rfl
theorem encF_one (f : FY) : ∀ x ∈ encF f, x.oneCell' = true := by
  intro x hx
  obtain ⟨s, y, d, i, op, lop, ot, lot⟩ := f
  cases s <;> (simp only [encF, Bool.false_eq_true, if_false, if_true, List.mem_cons, List.not_mem_nil, or_false] at hx; rcases hx with rfl | rfl | rfl | rfl | rfl | rfl | rfl | rfl | rfl | rfl | rfl | rfl | rfl | rfl | rfl | rfl | rfl | rfl <;> rfl)
/-- A string literal with this fodder. -/
def LitT (w : World) (y : Nat) (u : Value) : Prop := ∃ (c0 c1 c2 : Value) (rest : List Value), w.heap[y]? = some (.cells (c0 :: c1 :: c2 :: u :: rest).toArray 101 (0, 0))
theorem LitT.keptS {S : List Nat} {w w' : World} {y : Nat} {u : Value} (h : LitT w y u) (q : Kept S w w') (hn : y ∉ S) : LitT w' y u := by
  obtain ⟨c0, c1, c2, r, h⟩ := h
  exact ⟨c0, c1, c2, r, q.heap h hn⟩
theorem LitT.typ {w : World} {y : Nat} {u : Value} (h : LitT w y u) : ∃ cs, w.heap[y]? = some (.cells cs 101 (0, 0)) := by
  obtain ⟨c0, c1, c2, r, h⟩ := h
  exact ⟨_, h⟩
theorem LitT.cell {w : World} {y : Nat} {u : Value} (h : LitT w y u) : w.cell? ⟨y, 3, none⟩ = some u ∧ w.frozen? ⟨y, 3, none⟩ = false := by
  obtain ⟨c0, c1, c2, r, h⟩ := h
  exact ⟨cell_of_block h 3, frozen_of_block h 3⟩

theorem LitT.kept0 {w w' : World} {y : Nat} {u : Value} (h : LitT w y u) (q : Kept [] w w') : LitT w' y u := h.keptS q (by simp)
theorem NulT.keptS {S : List Nat} {w w' : World} {x : Nat} (h : NulT w x) (q : Kept S w w') (hn : x ∉ S) : NulT w' x := q.heap h hn

/-- The fodder of a field ahead of its name (false) or of its operator (true). -/
def FY.val (f : FY) (b : Bool) : Value := if b then f.ot.val else f.op.val
def FY.fod (f : FY) (b : Bool) : List FE := if b then f.lot else f.lop
/-- A row of fields under construction, all of the call's own from C on. -/
structure FRow (w : World) (C : Nat) (v : Value) (fs : List FY) (zs : List (Bool × List ZE × List ZE)) : Prop where
  own : OwnR 74 18 encF w C v fs
  nul : ∀ (j : Nat) f, fs[j]? = some f → NulT w f.d ∧ C ≤ f.d
  lit : ∀ (j : Nat) f, fs[j]? = some f → f.str = true → LitT w f.y f.op.val ∧ C ≤ f.y
  fo : ∀ (j : Nat) f, fs[j]? = some f → ∀ b, Fod w C (f.val b) (f.fod b)
  cod : fs.map (fun f => (f.str, codes f.lop, codes f.lot)) = zs
  yi : ∀ (i j : Nat) f g, fs[i]? = some f → fs[j]? = some g → i < j → f.str = true → g.str = true → f.y < g.y
  dj : ∀ (i j : Nat) f g (a b : Bool), fs[i]? = some f → fs[j]? = some g → (i, a) ≠ (j, b) → ∀ x, (f.val a).ownBlock = some x → (g.val b).ownBlock ≠ some x
theorem FRow.len {w : World} {C : Nat} {v : Value} {fs : List FY} {zs : List (Bool × List ZE × List ZE)} (h : FRow w C v fs zs) : fs.length = zs.length := by rw [← h.cod, List.length_map]
theorem FRow.kept0 {w w' : World} {C : Nat} {v : Value} {fs : List FY} {zs : List (Bool × List ZE × List ZE)} (h : FRow w C v fs zs) (q : Kept [] w w') : FRow w' C v fs zs :=
  ⟨h.own.kept0 q, fun j f hf => ⟨(h.nul j f hf).1.kept0 q, (h.nul j f hf).2⟩, fun j f hf hs => ⟨(h.lit j f hf hs).1.kept0 q, (h.lit j f hf hs).2⟩, fun j f hf b => (h.fo j f hf b).kept q (by simp), h.cod, h.yi, h.dj⟩
theorem FRow.nil (w : World) (C : Nat) {v : Value} (h : OwnR 74 18 encF w C v []) : FRow w C v [] [] :=
  ⟨h, fun j f hf => by simp at hf, fun j f hf => by simp at hf, fun j f hf => by simp at hf, rfl, fun i j f g hf => by simp at hf, fun i j f g a b hf => by simp at hf⟩
/-- One more field. Its opening fodder was built at w1, the operator's at w2, the field behind them. -/
theorem FRow.snoc {w0 w1 w w' : World} {C : Nat} {v v' : Value} {fs : List FY} {zs : List (Bool × List ZE × List ZE)} {f : FY} (h : FRow w0 C v fs zs) (q1 : Kept [] w0 w1) (q0 : Kept [] w1 w) (hC : C ≤ w0.heap.size) (hx : NulT w f.d) (hxC : C ≤ f.d) (hl : f.str = true → LitT w f.y f.op.val ∧ w0.heap.size ≤ f.y)
    (h1 : Fod w1 w0.heap.size f.op.val f.lop) (h2 : Fod w w1.heap.size f.ot.val f.lot) (hn : OwnR 74 18 encF w' C v' (fs ++ [f])) (q : Kept v.ownBlock.toList w w') : FRow w' C v' (fs ++ [f]) (zs ++ [(f.str, codes f.lop, codes f.lot)]) := by
  have ne : (74 : Nat) ≠ 98 := by decide
  have ty := (h.own.kept0 (q1.trans q0)).typ
  have fo : ∀ {u : Value} {m : List FE} {b : Nat}, Fod w b u m → Fod w' b u m := fun hf => (hf.own.keptT q ty ne).fod
  have nn : ∀ {x : Nat}, NulT w x → x ∉ v.ownBlock.toList := fun {x} hx hm => by
    obtain ⟨cs, hcs⟩ := ty x hm
    unfold NulT at hx
    rw [hx] at hcs
    simp at hcs
  have nl : ∀ {x : Nat} {u : Value}, LitT w x u → x ∉ v.ownBlock.toList := fun {x u} hx hm => by
    obtain ⟨cs, hcs⟩ := ty x hm
    obtain ⟨cs2, hc2⟩ := hx.typ
    rw [hc2] at hcs
    simp at hcs
  have s1 := q1.size
  have s0 := q0.size
  have fv : ∀ b, Fod w C (f.val b) (f.fod b) := fun b => by
    cases b
    · exact (h1.kept q0 (by simp)).low hC
    · exact h2.low (by omega)
  have fhi : ∀ b x, (f.val b).ownBlock = some x → w0.heap.size ≤ x := fun b x hx => by
    cases b
    · exact (World.ownsRow.lt h1 x hx).1
    · have := (World.ownsRow.lt h2 x hx).1
      omega
  have flo : ∀ (j : Nat) g, fs[j]? = some g → ∀ b x, (g.val b).ownBlock = some x → x < w0.heap.size := fun j g hg b x hx => (World.ownsRow.lt (h.fo j g hg b) x hx).2
  refine ⟨hn, fun j g hg => ?_, fun j g hg hs => ?_, fun j g hg b => ?_, by rw [List.map_append, h.cod]; rfl, fun i j g1 g2 hg1 hg2 hij e1 e2 => ?_, fun i j g1 g2 a b hg1 hg2 hij y hw => ?_⟩
  · rcases get_snoc hg with ⟨a, _⟩ | ⟨_, rfl⟩
    · have hq := (h.nul j g a).1.kept0 (q1.trans q0)
      exact ⟨hq.keptS q (nn hq), (h.nul j g a).2⟩
    · exact ⟨hx.keptS q (nn hx), hxC⟩
  · rcases get_snoc hg with ⟨a, _⟩ | ⟨_, rfl⟩
    · have hq := (h.lit j g a hs).1.kept0 (q1.trans q0)
      exact ⟨hq.keptS q (nl hq), (h.lit j g a hs).2⟩
    · have hq := (hl hs).1
      exact ⟨hq.keptS q (nl hq), Nat.le_trans hC (hl hs).2⟩
  · rcases get_snoc hg with ⟨a, _⟩ | ⟨_, rfl⟩
    · exact fo ((h.fo j g a b).kept (q1.trans q0) (by simp))
    · exact fo (fv b)
  · rcases get_snoc hg1 with ⟨c, c2⟩ | ⟨c, rfl⟩
    · rcases get_snoc hg2 with ⟨d, _⟩ | ⟨d, rfl⟩
      · exact h.yi i j g1 g2 c d hij e1 e2
      · have h3 := (hl e2).2
        have h4 := (Array.getElem?_eq_some_iff.1 (h.lit i g1 c e1).1.typ.choose_spec).1
        omega
    · rcases get_snoc hg2 with ⟨d, d2⟩ | ⟨d, rfl⟩
      · omega
      · omega
  · rcases get_snoc hg1 with ⟨c, c2⟩ | ⟨c, rfl⟩
    · rcases get_snoc hg2 with ⟨d, _⟩ | ⟨d, rfl⟩
      · exact h.dj i j g1 g2 a b c d hij y hw
      · intro e
        have h3 := flo i g1 c a y hw
        have h4 := fhi b y e
        omega
    · rcases get_snoc hg2 with ⟨d, _⟩ | ⟨d, rfl⟩
      · intro e
        have h3 := flo j g2 d b y e
        have h4 := fhi a y hw
        omega
      · subst c d
        intro e
        have hab : a ≠ b := fun e => hij (by rw [e])
        cases a <;> cases b
        · exact hab rfl
        · have h3 := (World.ownsRow.lt h1 y hw).2
          have h4 := (World.ownsRow.lt h2 y e).1
          omega
        · have h3 := (World.ownsRow.lt h2 y hw).1
          have h4 := (World.ownsRow.lt h1 y e).2
          omega
        · exact hab rfl

end Go.Proofs.YtgdipdbmllkckaaGreatFmt
