/- Rows that the call itself makes, of elements of any kind: how they read, and what an append of one element leaves. -/
import Derived.Test.YtgdipdbmllkckaaGreatFmtRd
import Derived.WalkSpells
import Derived.Deep.AppendLies
import Derived.Deep.RegionHeld3
import Derived.Deep.DrawnRows
namespace Go.Proofs.YtgdipdbmllkckaaGreatFmt
open Go.ChangeShapes Go.WideShapes Go.ChangeAt Go.RowKit

def flatG {α : Type} (enc : α → List Value) : List α → List Value
  | [] => []
  | y :: l => enc y ++ flatG enc l
theorem flatG_append {α : Type} (enc : α → List Value) (l m : List α) : flatG enc (l ++ m) = flatG enc l ++ flatG enc m := by
  induction l with
  | nil => rfl
  | cons e l ih => simp [flatG, ih]
theorem flatG_length {α : Type} {enc : α → List Value} {c : Nat} (h : ∀ y, (enc y).length = c) (l : List α) : (flatG enc l).length = l.length * c := by
  induction l with
  | nil => simp [flatG]
  | cons e l ih => simp only [flatG, List.length_append, ih, h, List.length_cons, Nat.succ_mul]; omega
theorem flatG_get {α : Type} {enc : α → List Value} {c : Nat} (h : ∀ y, (enc y).length = c) (l : List α) (i : Nat) (hi : i < l.length) (j : Nat) (hj : j < c) : (flatG enc l)[i * c + j]? = (enc l[i])[j]? := by
  induction l generalizing i with
  | nil => simp at hi
  | cons e l ih =>
    cases i with
    | zero =>
      simp only [flatG, Nat.zero_mul, Nat.zero_add, List.getElem_cons_zero]
      rw [List.getElem?_append_left (by rw [h]; exact hj)]
    | succ i =>
      simp only [flatG, List.getElem_cons_succ]
      rw [List.getElem?_append_right (by rw [h, Nat.succ_mul]; omega), ← ih i (by simpa using hi)]
      congr 1
      rw [h, Nat.succ_mul]; omega
theorem flat_flatG (l : List FE) : flat l = flatG FE.cells l := by
  induction l with
  | nil => rfl
  | cons e l ih => simp [flat, flatG, ih]

/-- v is a slice of the call's own, in a block from base on, whose elements are told by l. -/
def OwnR {α : Type} (T c : Nat) (enc : α → List Value) (w : World) (base : Nat) (v : Value) (l : List α) : Prop := w.ownsRow base T c v l.length (flatG enc l)

theorem OwnR.slice {α : Type} {T c : Nat} {enc : α → List Value} {w : World} {base : Nat} {v : Value} {l : List α} (h : OwnR T c enc w base v l) :
    ∃ a cap, v = .slice a l.length cap ∧ l.length ≤ cap ∧ cap ≤ maxLen ∧ ∀ i, i < l.length → ∃ g, a = some ⟨g, 0, none⟩ ∧ base ≤ g ∧ g < w.heap.size := by
  obtain ⟨_, h | ⟨g, cap, cur, hv, hb, hg, hn, hc, _⟩⟩ := h
  · obtain ⟨rfl, h0⟩ := h
    refine ⟨none, 0, by rw [h0], by omega, by unfold maxLen; omega, fun i hi => by omega⟩
  · exact ⟨some ⟨g, 0, none⟩, cap, hv, hn, hc, fun _ _ => ⟨g, rfl, hb, (Array.getElem?_eq_some_iff.1 hg).1⟩⟩
theorem OwnR.kept {α : Type} {T c : Nat} {enc : α → List Value} {S : List Nat} {w w' : World} {base : Nat} {v : Value} {l : List α} (h : OwnR T c enc w base v l) (hk : Kept S w w') (hn : ∀ g, v.ownBlock = some g → g ∉ S) : OwnR T c enc w' base v l :=
  hk.row h hn
theorem OwnR.kept0 {α : Type} {T c : Nat} {enc : α → List Value} {w w' : World} {base : Nat} {v : Value} {l : List α} (h : OwnR T c enc w base v l) (hk : Kept [] w w') : OwnR T c enc w' base v l := h.kept hk (by simp)
theorem OwnR.low {α : Type} {T c : Nat} {enc : α → List Value} {w : World} {b b' : Nat} {v : Value} {l : List α} (h : OwnR T c enc w b v l) (hb : b' ≤ b) : OwnR T c enc w b' v l := by
  refine ⟨h.1, ?_⟩
  rcases h.2 with h | ⟨g, cap, cur, e1, e2, e3⟩
  · exact Or.inl h
  · exact Or.inr ⟨g, cap, cur, e1, Nat.le_trans hb e2, e3⟩
theorem OwnR.cell {α : Type} {T c : Nat} {enc : α → List Value} {w : World} {base g n cap : Nat} {l : List α} (h : OwnR T c enc w base (.slice (some ⟨g, 0, none⟩) n cap) l) (he : ∀ y, (enc y).length = c) (i : Nat) (hi : i < l.length) (j : Nat) (hj : j < c) :
    w.cell? ⟨g, i * c + j, none⟩ = (enc l[i])[j]? := by
  have hlt : j < (enc l[i]).length := by rw [he]; exact hj
  have e := flatG_get he l i hi j hj
  rw [List.getElem?_eq_getElem hlt] at e ⊢
  have := World.ownsRow.cells h (g := g) rfl _ _ e
  rwa [add_off, Nat.zero_add] at this
/-- The block of such a row, if it has one, is of this kind. -/
theorem OwnR.blk {α : Type} {T c : Nat} {enc : α → List Value} {w : World} {base : Nat} {v : Value} {l : List α} (h : OwnR T c enc w base v l) {g : Nat} (hg : v.ownBlock = some g) : base ≤ g ∧ g < w.heap.size := World.ownsRow.lt h g hg

theorem OwnR.typ {α : Type} {T c : Nat} {enc : α → List Value} {w : World} {base : Nat} {v : Value} {l : List α} (h : OwnR T c enc w base v l) : ∀ g ∈ v.ownBlock.toList, ∃ cs, w.heap[g]? = some (.cells cs T (0, 0)) := by
  intro g hg
  obtain ⟨_, h | ⟨g', cap, cur, hv, hb, hh, _⟩⟩ := h
  · obtain ⟨rfl, _⟩ := h
    simp [Value.ownBlock] at hg
  · subst hv
    simp [Value.ownBlock] at hg
    subst hg
    exact ⟨_, hh⟩
/-- A change of blocks of another kind leaves it. -/
theorem OwnR.keptT {α : Type} {T T' c : Nat} {enc : α → List Value} {S : List Nat} {w w' : World} {base : Nat} {v : Value} {l : List α} (h : OwnR T c enc w base v l) (hk : Kept S w w') (hS : ∀ g ∈ S, ∃ cs, w.heap[g]? = some (.cells cs T' (0, 0))) (hne : T' ≠ T) :
    OwnR T c enc w' base v l := by
  refine h.kept hk (fun g hg hm => ?_)
  obtain ⟨cs, h1⟩ := hS g hm
  obtain ⟨cs2, h2⟩ := h.typ g (by simp [hg])
  rw [h1] at h2
  simp at h2
  exact hne h2.2

theorem OwnR.rd {α β : Type} {T c : Nat} {enc : α → List Value} {w : World} {base : Nat} {a : Option Addr} {n cap : Nat} {l : List α} (h : OwnR T c enc w base (.slice a n cap) l) (he : ∀ y, (enc y).length = c) (R : World → List Value → β → Prop) (ds : List β) (hd : ds.length = l.length)
    (hR : ∀ (i : Nat) y d, l[i]? = some y → ds[i]? = some d → R w (enc y) d) : Rd c R w a n cap ds := by
  obtain ⟨a', cap', hv, h1, h2, h3⟩ := h.slice
  injection hv with e1 e2 e3
  subst e1 e2 e3
  refine ⟨h1, h2, hd, fun i d hi => ?_⟩
  have hil : i < l.length := by have := (List.getElem?_eq_some_iff.1 hi).1; omega
  obtain ⟨g, rfl, _, hg⟩ := h3 i hil
  exact ⟨g, 0, enc l[i], rfl, hg, he _, hR i _ d (List.getElem?_eq_getElem hil) hi, fun j hj => by rw [Nat.zero_add]; exact h.cell he i hil j hj⟩

/-- One element more. -/
theorem wpList_push {α : Type} {T c : Nat} {enc : α → List Value} {w : World} {ops : Array Oper} {rest : List Oper} {o : Oper} {a : Act} {Q : Exit → Act → World → Prop} (hgd : o.guard = none) (s x : Operand) (t : TypeId)
    (ho : o.op = .call { callee := .builtin .append, args := #[s, x], argTypes := #[t, t] }) (base : Nat) (i : TypeInfo) (z : Value) (bytes : Nat) (ht : Tryz.prog.underlying t = some (.slice T)) (hi : Tryz.prog.info? T = some i) (hz : i.zero = some z)
    (hsize : i.size = c) (hby : i.bytes = bytes) (hzs : z.cells.size = c) (hsz : 0 < c) (he : ∀ y, (enc y).length = c) (h1 : ∀ y, ∀ u ∈ enc y, u.oneCell' = true) (v : Value) (l : List α) (hs : a.eval s = v) (hown : OwnR T c enc w base v l)
    (g : Nat) (y : α) (cp : Nat) (cs : Array Value) (hx : a.eval x = .slice (some ⟨g, 0, none⟩) 1 cp) (hb : w.heap[g]? = some (.cells cs T (0, 0))) (hcs : cs.toList = enc y) (h63 : l.length + 1 ≤ maxLen) (hbytes : (l.length + 1) * bytes ≤ 140737488355328) (hbase : base ≤ w.heap.size)
    (h : ∀ v' w', OwnR T c enc w' base v' (l ++ [y]) → Kept v.ownBlock.toList w w' → wpList Tryz.prog ops Q rest (a.put o.dst v') w') : wpList Tryz.prog ops Q (o :: rest) a w :=
  wpList_append_own (w := w) hgd s x t ho base T i z c bytes ht hi hz hsize hby hzs hsz v l.length (flatG enc l) hs hown ⟨g, 0, none⟩ 1 cp (enc y) hx (by rw [he]; omega)
    (fun j u hu => World.news_of_block hb j u (by rw [hcs]; exact hu)) (h1 y) h63 hbytes hbase
    (fun v' w' h2 h3 _ => h v' w' (by
      unfold OwnR
      rw [List.length_append, flatG_append]
      simpa [flatG] using h2) ((Kept.refl _ _).grown h3 (fun k hk => Or.inl (by simp [hk]))))

/-- One element more, at a step of a region that draws its order. -/
theorem step_push {α : Type} {T c : Nat} {enc : α → List Value} {w : World} {ops : Array Oper} {o : Oper} {a : Act} {K : Act → World → Prop} {Q : Exit → Act → World → Prop} {E : Prop} (hgd : o.guard = none) (s x : Operand) (t : TypeId)
    (ho : o.op = .call { callee := .builtin .append, args := #[s, x], argTypes := #[t, t] }) (base : Nat) (i : TypeInfo) (z : Value) (bytes : Nat) (ht : Tryz.prog.underlying t = some (.slice T)) (hi : Tryz.prog.info? T = some i) (hz : i.zero = some z)
    (hsize : i.size = c) (hby : i.bytes = bytes) (hzs : z.cells.size = c) (hsz : 0 < c) (he : ∀ y, (enc y).length = c) (h1 : ∀ y, ∀ u ∈ enc y, u.oneCell' = true) (v : Value) (l : List α) (hs : a.eval s = v) (hown : OwnR T c enc w base v l)
    (g : Nat) (y : α) (cp : Nat) (cs : Array Value) (hx : a.eval x = .slice (some ⟨g, 0, none⟩) 1 cp) (hb : w.heap[g]? = some (.cells cs T (0, 0))) (hcs : cs.toList = enc y) (h63 : l.length + 1 ≤ maxLen) (hbytes : (l.length + 1) * bytes ≤ 140737488355328) (hbase : base ≤ w.heap.size)
    (h : ∀ v' w', OwnR T c enc w' base v' (l ++ [y]) → Kept v.ownBlock.toList w w' → K (a.put o.dst v') w') :
    if Region.wanted o (yielded ops a.tmps) = true then Oper.wp Tryz.prog o a w K Q else E :=
  step_append_lies (w := w) hgd s x t ho base T i z c bytes ht hi hz hsize hby hzs hsz v l.length (flatG enc l) hs hown ⟨g, 0, none⟩ 1 cp (enc y) hx (by rw [he]; omega)
    (fun j u hu => World.news_of_block hb j u (by rw [hcs]; exact hu)) (h1 y) (by omega) h63 hbytes hbase _ rfl
    (fun g' cap w' h2 h3 _ _ => h _ w' (by
      unfold OwnR
      rw [List.length_append, flatG_append]
      simpa [flatG] using h2) ((Kept.refl _ _).grown h3 (fun k hk => Or.inl (by simp [hk]))))

theorem Fod.own {w : World} {base : Nat} {v : Value} {l : List FE} (h : Fod w base v l) : OwnR 98 4 FE.cells w base v l := by
  unfold OwnR
  rw [← flat_flatG]
  exact h
theorem OwnR.fod {w : World} {base : Nat} {v : Value} {l : List FE} (h : OwnR 98 4 FE.cells w base v l) : Fod w base v l := by
  unfold OwnR at h
  rw [← flat_flatG] at h
  exact h
theorem FE.cells_len (e : FE) : e.cells.length = 4 := rfl
theorem FE.one (e : FE) : ∀ u ∈ e.cells, u.oneCell' = true := by
  intro u hu
  simp only [FE.cells, List.mem_cons, List.not_mem_nil, or_false] at hu
  rcases hu with rfl | rfl | rfl | rfl <;> rfl
theorem ZE.cells_len (e : ZE) : e.cells.length = 4 := rfl
theorem ZE.one (e : ZE) : ∀ u ∈ e.cells, u.oneCell' = true := by
  intro u hu
  simp only [ZE.cells, List.mem_cons, List.not_mem_nil, or_false] at hu
  rcases hu with rfl | rfl | rfl | rfl <;> rfl
/-- Codes that the call itself wrote. -/
def Snp (w : World) (base : Nat) (v : Value) (l : List ZE) : Prop := OwnR 81 4 ZE.cells w base v l
theorem Snp.rdz {w : World} {base : Nat} {a : Option Addr} {n cap : Nat} {l : List ZE} (h : Snp w base (.slice a n cap) l) : RdZ w a n cap l :=
  OwnR.rd h ZE.cells_len RZ l rfl (fun i y d h1 h2 => by rw [h1] at h2; obtain rfl : y = d := by simpa using h2
                                                         rfl)
/-- A slice of some such slice's cells. -/
abbrev Trip := Option Addr × Nat × Nat
def Trip.val (t : Trip) : Value := .slice t.1 t.2.1 t.2.2
def encS (t : Trip) : List Value := [t.val]
theorem encS_len (t : Trip) : (encS t).length = 1 := rfl
theorem encS_one (t : Trip) : ∀ u ∈ encS t, u.oneCell' = true := by
  intro u hu
  simp only [encS, List.mem_cons, List.not_mem_nil, or_false] at hu
  subst hu; rfl
/-- v is a slice, of the call's own, of slices of codes, of the call's own. -/
def RowO (w : World) (base : Nat) (v : Value) (dd : List (List ZE)) : Prop :=
  ∃ ts : List Trip, OwnR 24 1 encS w base v ts ∧ ts.length = dd.length ∧ ∀ (j : Nat) t d, ts[j]? = some t → dd[j]? = some d → Snp w base t.val d
theorem RowO.kept0 {w w' : World} {base : Nat} {v : Value} {dd : List (List ZE)} (h : RowO w base v dd) (q : Kept [] w w') : RowO w' base v dd := by
  obtain ⟨ts, h1, h2, h3⟩ := h
  exact ⟨ts, h1.kept0 q, h2, fun j t d ht hd => OwnR.kept0 (h3 j t d ht hd) q⟩
theorem RowO.low {w : World} {b b' : Nat} {v : Value} {dd : List (List ZE)} (h : RowO w b v dd) (hb : b' ≤ b) : RowO w b' v dd := by
  obtain ⟨ts, h1, h2, h3⟩ := h
  exact ⟨ts, h1.low hb, h2, fun j t d ht hd => OwnR.low (h3 j t d ht hd) hb⟩
theorem Snp.keptT {T' : Nat} {S : List Nat} {w w' : World} {base : Nat} {v : Value} {l : List ZE} (h : Snp w base v l) (hk : Kept S w w') (hS : ∀ g ∈ S, ∃ cs, w.heap[g]? = some (.cells cs T' (0, 0))) (hne : T' ≠ 81) : Snp w' base v l := OwnR.keptT h hk hS hne
theorem RowO.keptT {T' : Nat} {S : List Nat} {w w' : World} {base : Nat} {v : Value} {dd : List (List ZE)} (h : RowO w base v dd) (q : Kept S w w') (hS : ∀ g ∈ S, ∃ cs, w.heap[g]? = some (.cells cs T' (0, 0))) (h1 : T' ≠ 81) (h2 : T' ≠ 24) : RowO w' base v dd := by
  obtain ⟨ts, q1, q2, q3⟩ := h
  exact ⟨ts, q1.keptT q hS h2, q2, fun j t d ht hd => (q3 j t d ht hd).keptT q hS h1⟩
theorem RowO.slice {w : World} {base : Nat} {v : Value} {dd : List (List ZE)} (h : RowO w base v dd) : ∃ a c, v = .slice a dd.length c := by
  obtain ⟨ts, h1, h2, _⟩ := h
  obtain ⟨a, c, hv, _⟩ := h1.slice
  exact ⟨a, c, by rw [hv, h2]⟩
theorem Trip.of {w : World} {base : Nat} {t : Trip} {d : List ZE} (h : Snp w base t.val d) : RdZ w t.1 t.2.1 t.2.2 d := Snp.rdz h
theorem RowO.rdr {w : World} {base : Nat} {a : Option Addr} {n cap : Nat} {dd : List (List ZE)} (h : RowO w base (.slice a n cap) dd) : RdR w a n cap dd := by
  obtain ⟨ts, h1, h2, h3⟩ := h
  exact OwnR.rd h1 encS_len RRow dd h2.symm (fun i t d ht hd => ⟨t.1, t.2.1, t.2.2, rfl, Trip.of (h3 i t d ht hd)⟩)
theorem RowO.snoc {w w' : World} {base : Nat} {v v' : Value} {dd : List (List ZE)} {ts : List Trip} {t : Trip} {d : List ZE} (h2 : ts.length = dd.length) (h3 : ∀ (j : Nat) t d, ts[j]? = some t → dd[j]? = some d → Snp w base t.val d) (hd : Snp w base t.val d) (hv : OwnR 24 1 encS w base v ts)
    (hn : OwnR 24 1 encS w' base v' (ts ++ [t])) (q : Kept v.ownBlock.toList w w') : RowO w' base v' (dd ++ [d]) := by
  have ne : (24 : Nat) ≠ 81 := by decide
  refine ⟨_, hn, by simp [h2], fun j t' d' ht hd' => ?_⟩
  by_cases hj : j < ts.length
  · rw [List.getElem?_append_left hj] at ht
    rw [List.getElem?_append_left (by omega)] at hd'
    exact (h3 j t' d' ht hd').keptT q hv.typ ne
  · rw [List.getElem?_append_right (by omega)] at ht
    rw [List.getElem?_append_right (by omega), ← h2] at hd'
    have hj0 : j - ts.length = 0 := by
      by_cases h0 : j - ts.length = 0
      · exact h0
      · rw [List.getElem?_eq_none (by simp; omega)] at ht; cases ht
    rw [hj0] at ht hd'
    simp at ht hd'
    subst ht hd'
    exact hd.keptT q hv.typ ne
theorem Tryz.infoRow : (Tryz.prog.info? 24).map (fun i => (i.zero, i.size, i.bytes)) = some (some (.slice none 0 0), 1, 24) := by kernel_rfl
theorem Tryz.infoZ : (Tryz.prog.info? 81).map (fun i => (i.zero, i.size, i.bytes)) = some (some (.agg #[.int .i64 0, .int .i64 0, .int .i64 0, .int .i64 0]), 4, 32) := by kernel_rfl
end Go.Proofs.YtgdipdbmllkckaaGreatFmt
