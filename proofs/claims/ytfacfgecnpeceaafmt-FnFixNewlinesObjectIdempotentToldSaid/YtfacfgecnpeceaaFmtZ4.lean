/- Slices of structs of four ints, and slices of such slices, that came in: what the walk is told of them, and how the row's reading gives it. -/
import Derived.Test.YtfacfgecnpeceaaFmtSl
import Derived.Test.YtfacfgecnpeceaaFmtNode
namespace Go.Proofs.YtfacfgecnpeceaaFmt
open Go.ChangeShapes Go.WideShapes Go.ChangeAt Go.RowKit

/-- A struct of four ints: a kind, blanks, an indent, a count of comments. -/
structure ZE where
  k : Int
  b : Int
  i : Int
  c : Int
  deriving Inhabited
def ZE.cells (z : ZE) : List Value := [.int .i64 z.k, .int .i64 z.b, .int .i64 z.i, .int .i64 z.c]
def RZ (_ : World) (cs : List Value) (z : ZE) : Prop := cs = z.cells
def IsZ := IsSl 4 RZ

theorem trod_struct4 {H : Type} {enc : TypeId × Value → H} {w : World} {base : Nat} {spare : Nat → Bool} {held : Bool} {t : TypeId} {f0 f1 f2 f3 : Field} {fuel : Nat} {cs : List Value} {x : DataW H × List MemPlace}
    (ht : Tryf.prog.underlying t = some (.struct #[f0, f1, f2, f3])) (h : DataW.trod enc Tryf.prog w base spare held fuel t cs = some x) :
    ∃ y0 y1 y2 y3 n, cs.length = Tryf.prog.cellsOf t ∧ DataW.trod enc Tryf.prog w base spare held n f0.type ((cs.drop f0.offset).take (Tryf.prog.cellsOf f0.type)) = some y0 ∧
      DataW.trod enc Tryf.prog w base spare held n f1.type ((cs.drop f1.offset).take (Tryf.prog.cellsOf f1.type)) = some y1 ∧
      DataW.trod enc Tryf.prog w base spare held n f2.type ((cs.drop f2.offset).take (Tryf.prog.cellsOf f2.type)) = some y2 ∧
      DataW.trod enc Tryf.prog w base spare held n f3.type ((cs.drop f3.offset).take (Tryf.prog.cellsOf f3.type)) = some y3 := by
  obtain ⟨xs, n, _, rfl, hl, hlen, hf⟩ := DataW.trod_struct ht h
  match xs, hlen with
  | [y0, y1, y2, y3], _ => exact ⟨y0, y1, y2, y3, n, hl, by simpa using hf 0 f0 rfl, by simpa using hf 1 f1 rfl, by simpa using hf 2 f2 rfl, by simpa using hf 3 f3 rfl⟩

section
variable {H : Type} {enc : TypeId × Value → H} {w : World}

set_option maxRecDepth 100000 in
theorem read_z (n : Nat) (cs : List Value) (y : DataW H × List MemPlace) (hy : DataW.trod enc Tryf.prog w 0 (fun _ => true) true n 58 cs = some y) : ∃ z, RZ w cs z := by
  obtain ⟨y0, y1, y2, y3, m, hl, h0, h1, h2, h3⟩ := trod_struct4 Tryf.underlying58 hy
  have hc : Tryf.prog.cellsOf 58 = 4 := by kernel_rfl
  have e3 : Tryf.prog.cellsOf 3 = 1 := by kernel_rfl
  rw [hc] at hl
  match cs, hl with
  | [c0, c1, c2, c3], _ =>
    simp only [e3, List.drop_zero, List.drop_succ_cons, List.take_succ_cons, List.take_zero] at h0 h1 h2 h3
    obtain ⟨x0, q0, _, _⟩ := DataW.trod_int Tryf.underlying3 h0
    obtain ⟨x1, q1, _, _⟩ := DataW.trod_int Tryf.underlying3 h1
    obtain ⟨x2, q2, _, _⟩ := DataW.trod_int Tryf.underlying3 h2
    obtain ⟨x3, q3, _, _⟩ := DataW.trod_int Tryf.underlying3 h3
    simp at q0 q1 q2 q3
    subst q0 q1 q2 q3
    exact ⟨⟨x0, x1, x2, x3⟩, rfl⟩

theorem open_z {fuel : Nat} {a : Option Addr} {len cap : Nat} {x : DataW H × List MemPlace}
    (h : DataW.trod enc Tryf.prog w 0 (fun _ => true) true fuel 23 [.slice a len cap] = some x) : ∃ ds, IsZ w a len cap ds :=
  open_sl Tryf.underlying23 (by kernel_rfl) (by omega) RZ read_z h

/-- A row of such structs: its slice and what it reads as. -/
structure ZRow where
  a : Option Addr
  l : Nat
  c : Nat
  ds : List ZE
  deriving Inhabited
def RZZ (w : World) (cs : List Value) (r : ZRow) : Prop := cs = [.slice r.a r.l r.c] ∧ IsZ w r.a r.l r.c r.ds
def IsZZ := IsSl 1 RZZ

theorem read_zz (n : Nat) (cs : List Value) (y : DataW H × List MemPlace) (hy : DataW.trod enc Tryf.prog w 0 (fun _ => true) true n 23 cs = some y) : ∃ r, RZZ w cs r := by
  rcases Go.Deep.open_slice Tryf.underlying23 hy with ⟨h0, _⟩ | ⟨a', len', cap', _, _, _, _, h1, _⟩
  · subst h0
    obtain ⟨ds, hds⟩ := open_z hy
    exact ⟨⟨none, 0, 0, ds⟩, rfl, hds⟩
  · subst h1
    obtain ⟨ds, hds⟩ := open_z hy
    exact ⟨⟨some a', len', cap', ds⟩, rfl, hds⟩

end

theorem IsZ.kept {w w' : World} {a : Option Addr} {len cap : Nat} {ds : List ZE} {S : List Nat} (h : IsZ w a len cap ds) (hk : Kept S w w') (hS : ∀ g ∈ S, w.heap.size ≤ g) : IsZ w' a len cap ds :=
  IsSl.kept h hk hS (fun _ _ h => h)
theorem IsZZ.kept {w w' : World} {a : Option Addr} {len cap : Nat} {ds : List ZRow} {S : List Nat} (h : IsZZ w a len cap ds) (hk : Kept S w w') (hS : ∀ g ∈ S, w.heap.size ≤ g) : IsZZ w' a len cap ds :=
  IsSl.kept h hk hS (fun _ _ h => ⟨h.1, h.2.kept hk hS⟩)

/-- The cells of element i. -/
theorem IsZ.cells {w : World} {a : Option Addr} {len cap : Nat} {ds : List ZE} (h : IsZ w a len cap ds) (i : Nat) (hi : i < len) :
    ∃ b o z, ds[i]? = some z ∧ a = some ⟨b, o, none⟩ ∧ b < w.heap.size ∧ w.cell? ⟨b, o + i * 4, none⟩ = some (.int .i64 z.k) ∧
      w.cell? ⟨b, o + i * 4 + 1, none⟩ = some (.int .i64 z.b) ∧ w.cell? ⟨b, o + i * 4 + 2, none⟩ = some (.int .i64 z.i) ∧ w.cell? ⟨b, o + i * 4 + 3, none⟩ = some (.int .i64 z.c) := by
  have hl : i < ds.length := by have := h.le; have := h.full; omega
  obtain ⟨b, o, cs, h1, h2, h3, rfl, h5⟩ := h.at' i ds[i] (List.getElem?_eq_getElem hl)
  exact ⟨b, o, ds[i], List.getElem?_eq_getElem hl, h1, h2, by simpa [ZE.cells] using h5 0 (by omega), by simpa [ZE.cells] using h5 1 (by omega), by simpa [ZE.cells] using h5 2 (by omega), by simpa [ZE.cells] using h5 3 (by omega)⟩

/-- Row i. -/
theorem IsZZ.row {w : World} {a : Option Addr} {len cap : Nat} {ds : List ZRow} (h : IsZZ w a len cap ds) (i : Nat) (hi : i < len) :
    ∃ b o r, ds[i]? = some r ∧ a = some ⟨b, o, none⟩ ∧ b < w.heap.size ∧ w.cell? ⟨b, o + i, none⟩ = some (.slice r.a r.l r.c) ∧ IsZ w r.a r.l r.c r.ds := by
  have hl : i < ds.length := by have := h.le; have := h.full; omega
  obtain ⟨b, o, cs, h1, h2, h3, ⟨rfl, h4⟩, h5⟩ := h.at' i ds[i] (List.getElem?_eq_getElem hl)
  exact ⟨b, o, ds[i], List.getElem?_eq_getElem hl, h1, h2, by simpa using h5 0 (by omega), h4⟩

end Go.Proofs.YtfacfgecnpeceaaFmt
