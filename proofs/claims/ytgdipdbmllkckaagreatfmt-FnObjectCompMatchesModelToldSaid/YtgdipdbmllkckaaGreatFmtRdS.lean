/- Reading: the levels of a comprehension as they come in. -/
import Derived.Test.YtgdipdbmllkckaaGreatFmtRd
namespace Go.Proofs.YtgdipdbmllkckaaGreatFmt
open Go.ChangeShapes Go.WideShapes Go.ChangeAt Go.RowKit

/-- A level: the codes of its 'for' fodder and of its 'if' fodders. -/
structure SE where
  f : List ZE
  ifs : List (List ZE)
  deriving Inhabited, DecidableEq
def RSp (w : World) (cs : List Value) (s : SE) : Prop := ∃ a l c a2 l2 c2, cs = [.slice a l c, .slice a2 l2 c2] ∧ RdZ w a l c s.f ∧ RdR w a2 l2 c2 s.ifs
def RdS := Rd 2 RSp
theorem RSp.kept {w w' : World} {cs : List Value} {s : SE} {S : List Nat} (h : RSp w cs s) (hk : Kept S w w') (hS : ∀ g ∈ S, w.heap.size ≤ g) : RSp w' cs s := by
  obtain ⟨a, l, c, a2, l2, c2, h1, h2, h3⟩ := h
  exact ⟨a, l, c, a2, l2, c2, h1, h2.kept hk hS, h3.kept hk hS⟩
theorem RdS.kept {w w' : World} {a : Option Addr} {len cap : Nat} {ds : List SE} {S : List Nat} (h : RdS w a len cap ds) (hk : Kept S w w') (hS : ∀ g ∈ S, w.heap.size ≤ g) : RdS w' a len cap ds :=
  Rd.kept h hk hS (fun _ _ h => h.kept hk hS)
theorem RdS.kept0 {w w' : World} {a : Option Addr} {len cap : Nat} {ds : List SE} (h : RdS w a len cap ds) (hk : Kept [] w w') : RdS w' a len cap ds := h.kept hk (by simp)
theorem RdS.below {w w' : World} {B : Nat} {a : Option Addr} {len cap : Nat} {ds : List SE} (h : RdS w a len cap ds) (hb : Below B w w') (hB : w.heap.size ≤ B) : RdS w' a len cap ds :=
  h.kept0 (Kept.of_below hb hB [])

theorem RdS.sp {w : World} {a : Option Addr} {len cap : Nat} {ds : List SE} (h : RdS w a len cap ds) (i : Nat) (hi : i < len) :
    ∃ b o s a1 l1 c1 a2 l2 c2, ds[i]? = some s ∧ a = some ⟨b, o, none⟩ ∧ b < w.heap.size ∧ w.cell? ⟨b, o + i * 2, none⟩ = some (.slice a1 l1 c1) ∧ w.cell? ⟨b, o + i * 2 + 1, none⟩ = some (.slice a2 l2 c2) ∧
      RdZ w a1 l1 c1 s.f ∧ RdR w a2 l2 c2 s.ifs := by
  have hl : i < ds.length := by have := h.len; omega
  obtain ⟨b, o, cs, h1, h2, h3, ⟨a1, l1, c1, a2, l2, c2, rfl, q1, q2⟩, h5⟩ := h.at' i ds[i] (List.getElem?_eq_getElem hl)
  exact ⟨b, o, ds[i], a1, l1, c1, a2, l2, c2, List.getElem?_eq_getElem hl, h1, h2, by simpa using h5 0 (by omega), by simpa using h5 1 (by omega), q1, q2⟩

section
variable {H : Type} {enc : TypeId × Value → H} {w : World}
theorem open_rows {fuel : Nat} {a : Option Addr} {len cap : Nat} {x : DataW H × List MemPlace}
    (h : DataW.trod enc Tryz.prog w 0 (fun _ => true) true fuel 77 [.slice a len cap] = some x) : ∃ ds, RdR w a len cap ds := by
  obtain ⟨ds, hds⟩ := open_sl (c := 1) Tryz.underlying77 (by kernel_rfl) (by omega) RRow read_row h
  exact ⟨_, hds.rd⟩

theorem sl_one {T E : TypeId} (ht : Tryz.prog.underlying T = some (.slice E)) {n : Nat} {v : Value} {y : DataW H × List MemPlace} (hy : DataW.trod enc Tryz.prog w 0 (fun _ => true) true n T [v] = some y) : ∃ a l c, v = .slice a l c := by
  rcases Go.Deep.open_slice ht hy with ⟨h0, _⟩ | ⟨a', len', cap', _, _, _, _, h1, _⟩
  · simp at h0
    exact ⟨none, 0, 0, h0⟩
  · simp at h1
    exact ⟨some a', len', cap', h1⟩

set_option maxRecDepth 100000 in
theorem read_sp (n : Nat) (cs : List Value) (y : DataW H × List MemPlace) (hy : DataW.trod enc Tryz.prog w 0 (fun _ => true) true n 79 cs = some y) : ∃ s, RSp w cs s := by
  obtain ⟨y0, y1, m, _, hl, h0, h1⟩ := trod_struct2 Tryz.underlying79 hy
  have hc : Tryz.prog.cellsOf 79 = 2 := by kernel_rfl
  have e0 : Tryz.prog.cellsOf 24 = 1 := by kernel_rfl
  have e1 : Tryz.prog.cellsOf 77 = 1 := by kernel_rfl
  rw [hc] at hl
  match cs, hl with
  | [c0, c1], _ =>
    simp only [e0, e1, List.drop_zero, List.drop_succ_cons, List.take_succ_cons, List.take_zero] at h0 h1
    obtain ⟨a, l, c, rfl⟩ := sl_one Tryz.underlying24 h0
    obtain ⟨a2, l2, c2, rfl⟩ := sl_one Tryz.underlying77 h1
    obtain ⟨ds, hds⟩ := open_els h0
    obtain ⟨dd, hdd⟩ := open_rows h1
    exact ⟨⟨ds, dd⟩, a, l, c, a2, l2, c2, rfl, hds, hdd⟩

theorem open_specs {fuel : Nat} {a : Option Addr} {len cap : Nat} {x : DataW H × List MemPlace}
    (h : DataW.trod enc Tryz.prog w 0 (fun _ => true) true fuel 23 [.slice a len cap] = some x) : ∃ ds, RdS w a len cap ds := by
  obtain ⟨ds, hds⟩ := open_sl (c := 2) Tryz.underlying23 (by kernel_rfl) (by omega) RSp read_sp h
  exact ⟨_, hds.rd⟩
end
end Go.Proofs.YtgdipdbmllkckaaGreatFmt
