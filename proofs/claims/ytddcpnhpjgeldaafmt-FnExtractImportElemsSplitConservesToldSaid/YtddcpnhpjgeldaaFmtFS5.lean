/- Binds and import elements in memory; the contracts of n008_135's importBindB2 and ast.FodderEnsureCleanNewline in codes. -/
import Derived.Test.YtddcpnhpjgeldaaFmtFS3
import Derived.Test.YtddcpnhpjgeldaaFmtFS4
import Derived.Test.YtddcpnhpjgeldaaFmtEC
import Derived.Test.YtddcpnhpjgeldaaFmtF2
namespace Go.Proofs.YtddcpnhpjgeldaaFmt
attribute [local go_sem ↓] Go.wp_at_zero Go.wp_at_succ
open Go.ChangeShapes Go.WideShapes Go.ChangeAt Go.RowKit

theorem ensure_codes (w : World) (base pb po : Nat) (v : Value) (l : List FE) (h : Fod w base v l) (hp : w.cell? ⟨pb, po, none⟩ = some v) (hpf : w.frozen? ⟨pb, po, none⟩ = false) (hpv : ∀ g, v.ownBlock = some g → g ≠ pb)
    (hlen : l.length ≤ 1048576) (hb : base ≤ w.heap.size) :
    Calls Tryf.prog 26 #[.pointer (some ⟨pb, po, none⟩)] w fun en w' => en = .returned (.tuple #[]) ∧ ∃ l', codes l' = ens (codes l) ∧ Appd w base pb po v l' w' := by
  cases hcl : clean l
  · refine (ensure_add w base pb po v l h hp hpf hpv hlen hb hcl).mono ?_
    rintro en w' ⟨rfl, ca, hA⟩
    refine ⟨rfl, _, ?_, hA⟩
    unfold ens
    rw [← clean_codes, hcl]
    simp [codes, FE.snap]
  · refine (ensure_clean w base pb po v l h hp hcl).mono ?_
    rintro en w' ⟨rfl, rfl⟩
    refine ⟨rfl, l, ?_, v, hp, hpf, h, Kept.refl _ _, fun g hg => ⟨hpv g hg, Or.inl hg⟩, fun _ _ => rfl, fun _ => rfl⟩
    unfold ens
    rw [← clean_codes, hcl]
    rfl

/-- A bind of an import: the fodder ahead of its name, the import's block, its name. -/
structure BX where
  vf : Trip
  imp : Nat
  var : ByteArray
  deriving Inhabited
def encY (y : BX) : List Value := [y.vf.val, .iface 60 (.pointer (some ⟨y.imp, 0, none⟩)), .slice none 0 0, .string y.var, .slice none 0 0, .pointer none, .pointer none, .string ⟨#[]⟩, .int .i64 0, .int .i64 0, .int .i64 0, .int .i64 0]
theorem encY_len (y : BX) : (encY y).length = 12 := rfl
theorem encY_one (y : BX) : ∀ u ∈ encY y, u.oneCell' = true := by
  intro u hu
  simp only [encY, List.mem_cons, List.not_mem_nil, or_false] at hu
  rcases hu with rfl | rfl | rfl | rfl | rfl | rfl | rfl | rfl | rfl | rfl | rfl | rfl <;> rfl
/-- An import element that was taken out of a bind. -/
structure IX where
  adj : Trip
  key : ByteArray
  vf : Trip
  imp : Nat
  var : ByteArray
  deriving Inhabited
def encX (y : IX) : List Value := [y.adj.val, .string y.key, y.vf.val, .iface 60 (.pointer (some ⟨y.imp, 0, none⟩)), .slice none 0 0, .string y.var, .slice none 0 0, .pointer none, .pointer none, .string ⟨#[]⟩, .int .i64 0, .int .i64 0, .int .i64 0, .int .i64 0]
theorem encX_len (y : IX) : (encX y).length = 14 := rfl
theorem encX_one (y : IX) : ∀ u ∈ encX y, u.oneCell' = true := by
  intro u hu
  simp only [encX, List.mem_cons, List.not_mem_nil, or_false] at hu
  rcases hu with rfl | rfl | rfl | rfl | rfl | rfl | rfl | rfl | rfl | rfl | rfl | rfl | rfl | rfl <;> rfl
theorem Tryf.infoLB : (Tryf.prog.info? 44).map (fun i => (i.zero, i.size, i.bytes)) = some (some (.agg #[.slice none 0 0, .nilIface, .slice none 0 0, .string ⟨#[]⟩, .slice none 0 0, .pointer none, .pointer none, .string ⟨#[]⟩, .int .i64 0, .int .i64 0, .int .i64 0, .int .i64 0]), 12, 168) := by kernel_rfl
theorem Tryf.infoIE : (Tryf.prog.info? 52).map (fun i => (i.zero, i.size, i.bytes)) = some (some (.agg #[.slice none 0 0, .string ⟨#[]⟩, .slice none 0 0, .nilIface, .slice none 0 0, .string ⟨#[]⟩, .slice none 0 0, .pointer none, .pointer none, .string ⟨#[]⟩, .int .i64 0, .int .i64 0, .int .i64 0, .int .i64 0]), 14, 208) := by kernel_rfl

theorem cell_new (w : World) (cs : Array Value) (t : TypeId) (n : Nat) (hn : n = w.heap.size) (o : Nat) : (w.alloc (.cells cs t)).cell? ⟨n, o, none⟩ = cs[o]? := by
  subst hn
  exact cell_of_block (heap_alloc_new w _) o
theorem ta_must {T E : TypeId} (hu : Tryf.prog.underlying T = some (.pointer E)) (x : Value) (X : TypeId) (w : World) :
    (Instr.typeAssert (.iface T x) X T false).run Tryf.prog w = .ok x w := by
  have hur : (underlying T).run Tryf.prog w = .ok (.pointer E) w := by
    have hprog : program.run Tryf.prog w = .ok Tryf.prog w := rfl
    unfold underlying
    simp [hprog, go_sem, hu]
  unfold Instr.typeAssert
  simp [go_sem, hur]
theorem ta_import (x : Value) (X : TypeId) (w : World) : (Instr.typeAssert (.iface 60 x) X 60 false).run Tryf.prog w = .ok x w := ta_must (E := 72) (by kernel_rfl) x X w
theorem heap_newN (w : World) (cs : Array Value) (t : TypeId) (n : Nat) (hn : n = w.heap.size) : (w.alloc (.cells cs t)).heap[n]? = some (.cells cs t (0, 0)) := by
  subst hn
  exact heap_alloc_new w _
/-- At x stands an import of that file. -/
def ImpAt (w : World) (x : Nat) (file : ByteArray) : Prop := ∃ f cs ct, w.heap[x]? = some (.cells cs 72 (0, 0)) ∧ cs[0]? = some (.pointer (some ⟨f, 0, none⟩)) ∧ w.heap[f]? = some (.cells ct 70 (0, 0)) ∧ ct[0]? = some (.string file)
theorem ImpAt.kept0 {w w' : World} {x : Nat} {s : ByteArray} (h : ImpAt w x s) (k : Kept [] w w') : ImpAt w' x s := by
  obtain ⟨f, cs, ct, h1, h2, h3, h4⟩ := h
  exact ⟨f, cs, ct, k.heap h1 (by simp), h2, k.heap h3 (by simp), h4⟩
theorem ImpAt.keptT {T' : Nat} {S : List Nat} {w w' : World} {x : Nat} {s : ByteArray} (h : ImpAt w x s) (k : Kept S w w') (hS : ∀ g ∈ S, ∃ cs, w.heap[g]? = some (.cells cs T' (0, 0))) (hne : T' ≠ 72) (hne2 : T' ≠ 70) : ImpAt w' x s := by
  obtain ⟨f, cs, ct, h1, h2, h3, h4⟩ := h
  refine ⟨f, cs, ct, k.heap h1 (fun hm => ?_), h2, k.heap h3 (fun hm => ?_), h4⟩
  · obtain ⟨c, h5⟩ := hS x hm
    rw [h1] at h5
    simp only [Option.some.injEq, Obj.cells.injEq] at h5
    exact hne h5.2.1.symm
  · obtain ⟨c, h5⟩ := hS f hm
    rw [h3] at h5
    simp only [Option.some.injEq, Obj.cells.injEq] at h5
    exact hne2 h5.2.1.symm
theorem ImpAt.cells {w : World} {x : Nat} {s : ByteArray} (h : ImpAt w x s) : ∃ f, w.cell? ⟨x, 0, none⟩ = some (.pointer (some ⟨f, 0, none⟩)) ∧ w.cell? ⟨f, 0, none⟩ = some (.string s) := by
  obtain ⟨f, cs, ct, h1, h2, h3, h4⟩ := h
  exact ⟨f, (cell_of_block h1 0).trans h2, (cell_of_block h3 0).trans h4⟩

set_option maxRecDepth 100000 in
theorem importBind_any (w : World) (var file : ByteArray) (a : Option Addr) (n c : Nat) : Calls Tryf.prog 9 #[.string var, .string file, .slice a n c] w fun e w' => ∃ x, e = .returned (.agg #[.slice a n c, .iface 60 (.pointer (some ⟨x, 0, none⟩)), .slice none 0 0, .string var, .slice none 0 0, .pointer none, .pointer none, .string ⟨#[]⟩, .int .i64 0, .int .i64 0, .int .i64 0, .int .i64 0]) ∧ ImpAt w' x file ∧ Kept [] w w' := by
  go_enter Tryf.func9, Tryf.ntmps9
  go_wp2_with fail
  refine bodyPost_ret (v := .agg #[.slice a n c, .iface 60 (.pointer (some ⟨w.heap.size + 1 + 1, 0, none⟩)), .slice none 0 0, .string var, .slice none 0 0, .pointer none, .pointer none, .string ⟨#[]⟩, .int .i64 0, .int .i64 0, .int .i64 0, .int .i64 0]) (by simp [results, Tryf.results9, go_sem]) rfl ?_
  refine ⟨w.heap.size + 1 + 1, rfl, ?_, ?_⟩
  · exact ⟨w.heap.size + 1, _, _, heap_newN _ _ _ _ (by simp), rfl, ((Kept.refl [] _).alloc _).heap (heap_newN (w.alloc _) _ _ _ (by simp)) (by simp), rfl⟩
  · exact (((Kept.refl _ _).alloc _).alloc _).alloc _
def RX (_ : World) (cs : List Value) (y : IX) : Prop := cs = encX y
def RdX := Rd 14 RX
theorem RdX.kept0 {w w' : World} {a : Option Addr} {len cap : Nat} {ys : List IX} (h : RdX w a len cap ys) (hk : Kept [] w w') : RdX w' a len cap ys :=
  Rd.kept h hk (by simp) (fun _ _ h => h)
theorem RdX.row {w : World} {a : Option Addr} {len cap : Nat} {ys : List IX} (h : RdX w a len cap ys) (i : Nat) (hi : i < len) :
    ∃ b o y, ys[i]? = some y ∧ a = some ⟨b, o, none⟩ ∧ b < w.heap.size ∧ ∀ j, j < 14 → w.cell? ⟨b, o + i * 14 + j, none⟩ = (encX y)[j]? := by
  have hl : i < ys.length := by have := h.len; omega
  obtain ⟨b, o, cs, h1, h2, h3, h4, h5⟩ := h.at' i ys[i] (List.getElem?_eq_getElem hl)
  have h4' : cs = encX ys[i] := h4
  subst h4'
  exact ⟨b, o, ys[i], List.getElem?_eq_getElem hl, h1, h2, h5⟩
theorem OwnR.rdx {w : World} {base : Nat} {a : Option Addr} {n cap : Nat} {ys : List IX} (h : OwnR 52 14 encX w base (.slice a n cap) ys) : RdX w a n cap ys :=
  OwnR.rd h encX_len RX ys rfl (fun i y d h1 h2 => by rw [h1] at h2; obtain rfl : y = d := by simpa using h2
                                                      rfl)

def RY (_ : World) (cs : List Value) (y : BX) : Prop := cs = encY y
def RdY := Rd 12 RY
theorem RdY.kept0 {w w' : World} {a : Option Addr} {len cap : Nat} {ys : List BX} (h : RdY w a len cap ys) (hk : Kept [] w w') : RdY w' a len cap ys :=
  Rd.kept h hk (by simp) (fun _ _ h => h)
theorem RdY.row {w : World} {a : Option Addr} {len cap : Nat} {ys : List BX} (h : RdY w a len cap ys) (i : Nat) (hi : i < len) :
    ∃ b o y, ys[i]? = some y ∧ a = some ⟨b, o, none⟩ ∧ b < w.heap.size ∧ ∀ j, j < 12 → w.cell? ⟨b, o + i * 12 + j, none⟩ = (encY y)[j]? := by
  have hl : i < ys.length := by have := h.len; omega
  obtain ⟨b, o, cs, h1, h2, h3, h4, h5⟩ := h.at' i ys[i] (List.getElem?_eq_getElem hl)
  have h4' : cs = encY ys[i] := h4
  subst h4'
  exact ⟨b, o, ys[i], List.getElem?_eq_getElem hl, h1, h2, h5⟩
theorem OwnR.rdy {w : World} {base : Nat} {a : Option Addr} {n cap : Nat} {ys : List BX} (h : OwnR 44 12 encY w base (.slice a n cap) ys) : RdY w a n cap ys :=
  OwnR.rd h encY_len RY ys rfl (fun i y d h1 h2 => by rw [h1] at h2; obtain rfl : y = d := by simpa using h2
                                                      rfl)

end Go.Proofs.YtddcpnhpjgeldaaFmt
