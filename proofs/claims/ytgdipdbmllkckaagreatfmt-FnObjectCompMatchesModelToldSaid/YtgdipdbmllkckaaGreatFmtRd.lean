/- Reading: what the elements of a slice say as plain data, whoever made the slice. -/
import Derived.Test.YtgdipdbmllkckaaGreatFmtSl
import Derived.Test.YtgdipdbmllkckaaGreatFmtNode
namespace Go.Proofs.YtgdipdbmllkckaaGreatFmt
open Go.ChangeShapes Go.WideShapes Go.ChangeAt Go.RowKit

/-- A slice whose elements, of c cells each, read as ds. -/
structure Rd {α : Type} (c : Nat) (R : World → List Value → α → Prop) (w : World) (a : Option Addr) (len cap : Nat) (ds : List α) : Prop where
  le : len ≤ cap
  top : cap ≤ maxLen
  len : ds.length = len
  at' : ∀ i d, ds[i]? = some d → ∃ b o cs, a = some ⟨b, o, none⟩ ∧ b < w.heap.size ∧ cs.length = c ∧ R w cs d ∧ ∀ j, j < c → w.cell? ⟨b, o + i * c + j, none⟩ = cs[j]?

theorem IsSl.rd {α : Type} {c : Nat} {R : World → List Value → α → Prop} {w : World} {a : Option Addr} {len cap : Nat} {ds : List α} (h : IsSl c R w a len cap ds) : Rd c R w a len cap (ds.take len) := by
  refine ⟨h.le, h.top, by rw [List.length_take, h.full]; have := h.le; omega, fun i d hd => h.at' i d ?_⟩
  rw [List.getElem?_take] at hd
  split at hd
  · exact hd
  · cases hd

theorem Rd.nil' {α : Type} {c : Nat} {R : World → List Value → α → Prop} {w : World} {len cap : Nat} {ds : List α} (h : Rd c R w none len cap ds) : len = 0 ∧ ds = [] := by
  cases ds with
  | nil => exact ⟨h.len.symm, rfl⟩
  | cons d ds =>
    obtain ⟨b, o, cs, h1, _⟩ := h.at' 0 d rfl
    cases h1

theorem Rd.zero {α : Type} (c : Nat) (R : World → List Value → α → Prop) (w : World) (a : Option Addr) (cap : Nat) (h : cap ≤ maxLen) : Rd c R w a 0 cap ([] : List α) :=
  ⟨Nat.zero_le _, h, rfl, fun i d hd => by simp at hd⟩

theorem Rd.kept {α : Type} {c : Nat} {R : World → List Value → α → Prop} {w w' : World} {a : Option Addr} {len cap : Nat} {ds : List α} {S : List Nat} (h : Rd c R w a len cap ds) (hk : Kept S w w')
    (hS : ∀ g ∈ S, w.heap.size ≤ g) (hR : ∀ cs d, R w cs d → R w' cs d) : Rd c R w' a len cap ds := by
  refine ⟨h.le, h.top, h.len, fun i d hd => ?_⟩
  obtain ⟨b, o, cs, h1, h2, h3, h4, h5⟩ := h.at' i d hd
  refine ⟨b, o, cs, h1, Nat.lt_of_lt_of_le h2 hk.size, h3, hR _ _ h4, fun j hj => ?_⟩
  rw [← h5 j hj]
  exact World.cell?_of_block (w := w) (hk.block b h2 (fun hm => by have := hS b hm; omega))

/-- A part of it. -/
theorem Rd.sub {α : Type} {c : Nat} {R : World → List Value → α → Prop} {w : World} {b o : Nat} {len cap : Nat} {ds : List α} (h : Rd c R w (some ⟨b, o, none⟩) len cap ds) (i j : Nat) (hij : i ≤ j) (hj : j ≤ len) :
    Rd c R w (some ⟨b, o + i * c, none⟩) (j - i) (cap - i) ((ds.drop i).take (j - i)) := by
  have hl := h.len
  have hle := h.le
  have htop := h.top
  refine ⟨by omega, by omega, by rw [List.length_take, List.length_drop]; omega, fun k d hd => ?_⟩
  rw [List.getElem?_take] at hd
  split at hd
  · rw [List.getElem?_drop] at hd
    obtain ⟨b', o', cs, h1, h2, h3, h4, h5⟩ := h.at' _ d hd
    obtain ⟨rfl, rfl⟩ : b = b' ∧ o = o' := by simpa using h1
    refine ⟨b, o + i * c, cs, rfl, h2, h3, h4, fun q hq => ?_⟩
    rw [← h5 q hq, show o + i * c + k * c + q = o + (i + k) * c + q by rw [Nat.add_mul]; omega]
  · cases hd

/-- A struct of four ints: a kind, blanks, an indent, a count of comments. -/
structure ZE where
  k : Int
  b : Int
  i : Int
  c : Int
  deriving Inhabited, DecidableEq
def ZE.cells (z : ZE) : List Value := [.int .i64 z.k, .int .i64 z.b, .int .i64 z.i, .int .i64 z.c]
def RZ (_ : World) (cs : List Value) (z : ZE) : Prop := cs = z.cells
def RdZ := Rd 4 RZ
/-- A row of such structs in one cell. -/
def RRow (w : World) (cs : List Value) (ds : List ZE) : Prop := ∃ a l c, cs = [.slice a l c] ∧ RdZ w a l c ds
def RdR := Rd 1 RRow

theorem RdZ.kept {w w' : World} {a : Option Addr} {len cap : Nat} {ds : List ZE} {S : List Nat} (h : RdZ w a len cap ds) (hk : Kept S w w') (hS : ∀ g ∈ S, w.heap.size ≤ g) : RdZ w' a len cap ds :=
  Rd.kept h hk hS (fun _ _ h => h)
theorem RRow.kept {w w' : World} {cs : List Value} {ds : List ZE} {S : List Nat} (h : RRow w cs ds) (hk : Kept S w w') (hS : ∀ g ∈ S, w.heap.size ≤ g) : RRow w' cs ds := by
  obtain ⟨a, l, c, h1, h2⟩ := h
  exact ⟨a, l, c, h1, h2.kept hk hS⟩
theorem RdR.kept {w w' : World} {a : Option Addr} {len cap : Nat} {ds : List (List ZE)} {S : List Nat} (h : RdR w a len cap ds) (hk : Kept S w w') (hS : ∀ g ∈ S, w.heap.size ≤ g) : RdR w' a len cap ds :=
  Rd.kept h hk hS (fun _ _ h => h.kept hk hS)
theorem RdZ.kept0 {w w' : World} {a : Option Addr} {len cap : Nat} {ds : List ZE} (h : RdZ w a len cap ds) (hk : Kept [] w w') : RdZ w' a len cap ds := h.kept hk (by simp)
theorem RdR.kept0 {w w' : World} {a : Option Addr} {len cap : Nat} {ds : List (List ZE)} (h : RdR w a len cap ds) (hk : Kept [] w w') : RdR w' a len cap ds := h.kept hk (by simp)
theorem RdZ.below {w w' : World} {B : Nat} {a : Option Addr} {len cap : Nat} {ds : List ZE} (h : RdZ w a len cap ds) (hb : Below B w w') (hB : w.heap.size ≤ B) : RdZ w' a len cap ds :=
  h.kept0 (Kept.of_below hb hB [])
theorem RdR.below {w w' : World} {B : Nat} {a : Option Addr} {len cap : Nat} {ds : List (List ZE)} (h : RdR w a len cap ds) (hb : Below B w w') (hB : w.heap.size ≤ B) : RdR w' a len cap ds :=
  h.kept0 (Kept.of_below hb hB [])

theorem RdZ.cells {w : World} {a : Option Addr} {len cap : Nat} {ds : List ZE} (h : RdZ w a len cap ds) (i : Nat) (hi : i < len) :
    ∃ b o z, ds[i]? = some z ∧ a = some ⟨b, o, none⟩ ∧ b < w.heap.size ∧ w.cell? ⟨b, o + i * 4, none⟩ = some (.int .i64 z.k) ∧
      w.cell? ⟨b, o + i * 4 + 1, none⟩ = some (.int .i64 z.b) ∧ w.cell? ⟨b, o + i * 4 + 2, none⟩ = some (.int .i64 z.i) ∧ w.cell? ⟨b, o + i * 4 + 3, none⟩ = some (.int .i64 z.c) := by
  have hl : i < ds.length := by have := h.len; omega
  obtain ⟨b, o, cs, h1, h2, h3, rfl, h5⟩ := h.at' i ds[i] (List.getElem?_eq_getElem hl)
  exact ⟨b, o, ds[i], List.getElem?_eq_getElem hl, h1, h2, by simpa [ZE.cells] using h5 0 (by omega), by simpa [ZE.cells] using h5 1 (by omega), by simpa [ZE.cells] using h5 2 (by omega), by simpa [ZE.cells] using h5 3 (by omega)⟩

theorem RdR.row {w : World} {a : Option Addr} {len cap : Nat} {ds : List (List ZE)} (h : RdR w a len cap ds) (i : Nat) (hi : i < len) :
    ∃ b o r ra rl rc, ds[i]? = some r ∧ a = some ⟨b, o, none⟩ ∧ b < w.heap.size ∧ w.cell? ⟨b, o + i, none⟩ = some (.slice ra rl rc) ∧ RdZ w ra rl rc r := by
  have hl : i < ds.length := by have := h.len; omega
  obtain ⟨b, o, cs, h1, h2, h3, ⟨ra, rl, rc, rfl, h4⟩, h5⟩ := h.at' i ds[i] (List.getElem?_eq_getElem hl)
  exact ⟨b, o, ds[i], ra, rl, rc, List.getElem?_eq_getElem hl, h1, h2, by simpa using h5 0 (by omega), h4⟩

theorem trod_struct4 {H : Type} {enc : TypeId × Value → H} {w : World} {base : Nat} {spare : Nat → Bool} {held : Bool} {t : TypeId} {f0 f1 f2 f3 : Field} {fuel : Nat} {cs : List Value} {x : DataW H × List MemPlace}
    (ht : Tryz.prog.underlying t = some (.struct #[f0, f1, f2, f3])) (h : DataW.trod enc Tryz.prog w base spare held fuel t cs = some x) :
    ∃ y0 y1 y2 y3 n, cs.length = Tryz.prog.cellsOf t ∧ DataW.trod enc Tryz.prog w base spare held n f0.type ((cs.drop f0.offset).take (Tryz.prog.cellsOf f0.type)) = some y0 ∧
      DataW.trod enc Tryz.prog w base spare held n f1.type ((cs.drop f1.offset).take (Tryz.prog.cellsOf f1.type)) = some y1 ∧
      DataW.trod enc Tryz.prog w base spare held n f2.type ((cs.drop f2.offset).take (Tryz.prog.cellsOf f2.type)) = some y2 ∧
      DataW.trod enc Tryz.prog w base spare held n f3.type ((cs.drop f3.offset).take (Tryz.prog.cellsOf f3.type)) = some y3 := by
  obtain ⟨xs, n, _, rfl, hl, hlen, hf⟩ := DataW.trod_struct ht h
  match xs, hlen with
  | [y0, y1, y2, y3], _ => exact ⟨y0, y1, y2, y3, n, hl, by simpa using hf 0 f0 rfl, by simpa using hf 1 f1 rfl, by simpa using hf 2 f2 rfl, by simpa using hf 3 f3 rfl⟩

section
variable {H : Type} {enc : TypeId × Value → H} {w : World}

set_option maxRecDepth 100000 in
theorem read_z (n : Nat) (cs : List Value) (y : DataW H × List MemPlace) (hy : DataW.trod enc Tryz.prog w 0 (fun _ => true) true n 81 cs = some y) : ∃ z, RZ w cs z := by
  obtain ⟨y0, y1, y2, y3, m, hl, h0, h1, h2, h3⟩ := trod_struct4 Tryz.underlying81 hy
  have hc : Tryz.prog.cellsOf 81 = 4 := by kernel_rfl
  have e3 : Tryz.prog.cellsOf 3 = 1 := by kernel_rfl
  rw [hc] at hl
  match cs, hl with
  | [c0, c1, c2, c3], _ =>
    simp only [e3, List.drop_zero, List.drop_succ_cons, List.take_succ_cons, List.take_zero] at h0 h1 h2 h3
    obtain ⟨x0, q0, _, _⟩ := DataW.trod_int Tryz.underlying3 h0
    obtain ⟨x1, q1, _, _⟩ := DataW.trod_int Tryz.underlying3 h1
    obtain ⟨x2, q2, _, _⟩ := DataW.trod_int Tryz.underlying3 h2
    obtain ⟨x3, q3, _, _⟩ := DataW.trod_int Tryz.underlying3 h3
    simp at q0 q1 q2 q3
    subst q0 q1 q2 q3
    exact ⟨⟨x0, x1, x2, x3⟩, rfl⟩

theorem open_els {fuel : Nat} {a : Option Addr} {len cap : Nat} {x : DataW H × List MemPlace}
    (h : DataW.trod enc Tryz.prog w 0 (fun _ => true) true fuel 24 [.slice a len cap] = some x) : ∃ ds, RdZ w a len cap ds := by
  obtain ⟨ds, hds⟩ := open_sl (c := 4) Tryz.underlying24 (by kernel_rfl) (by omega) RZ read_z h
  exact ⟨_, hds.rd⟩

theorem read_row (n : Nat) (cs : List Value) (y : DataW H × List MemPlace) (hy : DataW.trod enc Tryz.prog w 0 (fun _ => true) true n 24 cs = some y) : ∃ r, RRow w cs r := by
  rcases Go.Deep.open_slice Tryz.underlying24 hy with ⟨h0, _⟩ | ⟨a', len', cap', _, _, _, _, h1, _⟩
  · subst h0
    obtain ⟨ds, hds⟩ := open_els hy
    exact ⟨ds, none, 0, 0, rfl, hds⟩
  · subst h1
    obtain ⟨ds, hds⟩ := open_els hy
    exact ⟨ds, some a', len', cap', rfl, hds⟩
end

end Go.Proofs.YtgdipdbmllkckaaGreatFmt
