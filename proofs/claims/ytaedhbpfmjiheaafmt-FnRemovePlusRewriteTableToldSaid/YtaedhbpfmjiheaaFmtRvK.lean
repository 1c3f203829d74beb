/- The nodes that n008_22's law lays; the own Visit keeps all at each; the own Visit at a Binary that is not rewritten. -/
import Derived.Test.YtaedhbpfmjiheaaFmtRvI
import Derived.Test.YtaedhbpfmjiheaaFmtRvJ
namespace Go.Proofs.YtaedhbpfmjiheaaFmt
open Go.ChangeShapes Go.WideShapes Go.ChangeAt Go.RowKit

/-- An empty fodder in a cell that may be written. -/
def ZF (w : World) (x o : Nat) : Prop := w.cell? ⟨x, o, none⟩ = some (.slice none 0 0) ∧ w.frozen? ⟨x, o, none⟩ = false
theorem ZF.kept {S : List Nat} {w w' : World} {x o : Nat} (h : ZF w x o) (q : Kept S w w') (hx : x ∉ S) : ZF w' x o :=
  ⟨q.cell h.1 hx, (q.frozen (World.block_lt_of_cell? w _ h.1) hx).trans h.2⟩
theorem fod_none (w : World) (base : Nat) : Fod w base (.slice none 0 0) [] := ⟨rfl, Or.inl ⟨rfl, rfl⟩⟩
/-- The left operand: a variable, a dollar, or an index of a variable by an identifier; its blocks lie below lim. -/
def LK (w : World) (lim : Nat) (T : TypeId) (x : Nat) : Prop := x < lim ∧ ((T = 30 ∧ ZF w x 1) ∨ (T = 78 ∧ ZF w x 0) ∨
  (T = 74 ∧ ZF w x 5 ∧ w.cell? ⟨x, 3, none⟩ = some (.slice none 0 0) ∧ (∃ ib, w.cell? ⟨x, 4, none⟩ = some (.pointer (some ⟨ib, 0, none⟩))) ∧ ∃ y, y < lim ∧ w.cell? ⟨x, 0, none⟩ = some (.iface 30 (.pointer (some ⟨y, 0, none⟩))) ∧ ZF w y 1))
theorem LK.kept {S : List Nat} {w w' : World} {lim x : Nat} {T : TypeId} (h : LK w lim T x) (q : Kept S w w') (hS : ∀ g ∈ S, lim ≤ g) : LK w' lim T x := by
  obtain ⟨h0, h⟩ := h
  have nx : ∀ y, y < lim → y ∉ S := fun y hy hm => by have := hS y hm; omega
  refine ⟨h0, ?_⟩
  rcases h with ⟨a, b⟩ | ⟨a, b⟩ | ⟨a, b, c, ⟨ib, d⟩, y, e, f, g⟩
  · exact Or.inl ⟨a, b.kept q (nx _ h0)⟩
  · exact Or.inr (Or.inl ⟨a, b.kept q (nx _ h0)⟩)
  · exact Or.inr (Or.inr ⟨a, b.kept q (nx _ h0), q.cell c (nx _ h0), ⟨ib, q.cell d (nx _ h0)⟩, y, e, q.cell f (nx _ h0), g.kept q (nx _ e)⟩)

theorem calm_Var {w : World} {base pb nb no xb : Nat} (hpb : IsPass w pb) (ctx : Value) {fv : Value} {l : List FE} (h : Fod w base fv l) (hn : w.cell? ⟨nb, no, none⟩ = some (.iface 30 (.pointer (some ⟨xb, 0, none⟩)))) (hx : w.cell? ⟨xb, 1, none⟩ = some fv) (hf : w.frozen? ⟨xb, 1, none⟩ = false) : Calm w pb ctx nb no :=
  fun w2 k => own_Var w2 base pb nb no xb (hpb.kept k (by simp)) ctx fv l (h.kept k (by simp)) (k.cell hn (by simp)) (k.cell hx (by simp)) ((k.frozen (World.block_lt_of_cell? w _ hx) (by simp)).trans hf)
theorem calm_Null {w : World} {base pb nb no xb : Nat} (hpb : IsPass w pb) (ctx : Value) {fv : Value} {l : List FE} (h : Fod w base fv l) (hn : w.cell? ⟨nb, no, none⟩ = some (.iface 29 (.pointer (some ⟨xb, 0, none⟩)))) (hx : w.cell? ⟨xb, 0, none⟩ = some fv) (hf : w.frozen? ⟨xb, 0, none⟩ = false) : Calm w pb ctx nb no :=
  fun w2 k => own_LiteralNull w2 base pb nb no xb (hpb.kept k (by simp)) ctx fv l (h.kept k (by simp)) (k.cell hn (by simp)) (k.cell hx (by simp)) ((k.frozen (World.block_lt_of_cell? w _ hx) (by simp)).trans hf)
theorem calm_Dollar {w : World} {base pb nb no xb : Nat} (hpb : IsPass w pb) (ctx : Value) {fv : Value} {l : List FE} (h : Fod w base fv l) (hn : w.cell? ⟨nb, no, none⟩ = some (.iface 78 (.pointer (some ⟨xb, 0, none⟩)))) (hx : w.cell? ⟨xb, 0, none⟩ = some fv) (hf : w.frozen? ⟨xb, 0, none⟩ = false) : Calm w pb ctx nb no :=
  fun w2 k => own_Dollar w2 base pb nb no xb (hpb.kept k (by simp)) ctx fv l (h.kept k (by simp)) (k.cell hn (by simp)) (k.cell hx (by simp)) ((k.frozen (World.block_lt_of_cell? w _ hx) (by simp)).trans hf)
theorem calm_Object {w : World} {base pb nb no xb : Nat} (hpb : IsPass w pb) (ctx : Value) {fv cv : Value} {l m : List FE} (h : Fod w base fv l) (hn : w.cell? ⟨nb, no, none⟩ = some (.iface 28 (.pointer (some ⟨xb, 0, none⟩)))) (hx : w.cell? ⟨xb, 2, none⟩ = some fv) (hf : w.frozen? ⟨xb, 2, none⟩ = false)
    (h0 : w.cell? ⟨xb, 0, none⟩ = some (.slice none 0 0)) (h1 : w.cell? ⟨xb, 1, none⟩ = some cv) (hc : Fod w base cv m) : Calm w pb ctx nb no := fun w2 k =>
  ownVisit w2 _ _ _ _ pb nb no (hpb.kept k (by simp)) (k.cell hn (by simp)) (fun w => ta_no_Binary 28 (.pointer (some ⟨xb, 0, none⟩)) 23 w (by decide)) _
    (visit_Object w2 base _ pb nb no xb (hpb.kept k (by simp)) ctx fv l (h.kept k (by simp)) (k.cell hn (by simp)) (k.cell hx (by simp)) ((k.frozen (World.block_lt_of_cell? w _ hx) (by simp)).trans hf)
      (fun w3 k3 => base_Object w3 base _ pb xb (hpb.kept (k.trans k3) (by simp)) ctx cv m (hc.kept (k.trans k3) (by simp)) ((k.trans k3).cell h1 (by simp)) none 0 ((k.trans k3).cell h0 (by simp)))) (fun _ _ h => h.1)
theorem LK.calm {w : World} {lim pb nb no x : Nat} {T : TypeId} (h : LK w lim T x) (hpb : IsPass w pb) (ctx : Value) (hn : w.cell? ⟨nb, no, none⟩ = some (.iface T (.pointer (some ⟨x, 0, none⟩)))) : Calm w pb ctx nb no := by
  obtain ⟨h0, h⟩ := h
  rcases h with ⟨rfl, b⟩ | ⟨rfl, b⟩ | ⟨rfl, b, c, ⟨ib, d⟩, y, e, f, g⟩
  · exact calm_Var (base := 0) hpb ctx (fod_none _ _) hn b.1 b.2
  · exact calm_Dollar (base := 0) hpb ctx (fod_none _ _) hn b.1 b.2
  · intro w2 k
    refine ownVisit w2 _ _ _ _ pb nb no (hpb.kept k (by simp)) (k.cell hn (by simp)) (fun w => ta_no_Binary 74 (.pointer (some ⟨x, 0, none⟩)) 23 w (by decide)) _
      (visit_Index w2 0 _ pb nb no x (hpb.kept k (by simp)) ctx _ [] (fod_none _ _) (k.cell hn (by simp)) (k.cell b.1 (by simp)) ((k.frozen (World.block_lt_of_cell? w _ b.1) (by simp)).trans b.2)
        (fun w3 k3 => base_Index w3 0 _ pb x ib (hpb.kept (k.trans k3) (by simp)) ctx _ [] (fod_none _ _) ((k.trans k3).cell c (by simp)) ((k.trans k3).cell d (by simp)) ?_)) (fun _ _ h => h.1)
    exact (calm_Var (base := 0) hpb ctx (fod_none _ _) f g.1 g.2).kept (k.trans k3)

/-- The right operand: an object without fields, a null, or a variable, with this fodder. -/
def RK (w : World) (base : Nat) (T : TypeId) (x : Nat) (v : Value) (l : List FE) : Prop := Fod w base v l ∧
  ((T = 28 ∧ w.cell? ⟨x, 2, none⟩ = some v ∧ w.frozen? ⟨x, 2, none⟩ = false ∧ w.cell? ⟨x, 0, none⟩ = some (.slice none 0 0) ∧ w.cell? ⟨x, 1, none⟩ = some (.slice none 0 0)) ∨
   (T = 29 ∧ w.cell? ⟨x, 0, none⟩ = some v ∧ w.frozen? ⟨x, 0, none⟩ = false) ∨ (T = 30 ∧ w.cell? ⟨x, 1, none⟩ = some v ∧ w.frozen? ⟨x, 1, none⟩ = false))
theorem RK.calm {w : World} {base pb nb no x : Nat} {T : TypeId} {v : Value} {l : List FE} (h : RK w base T x v l) (hpb : IsPass w pb) (ctx : Value) (hn : w.cell? ⟨nb, no, none⟩ = some (.iface T (.pointer (some ⟨x, 0, none⟩)))) : Calm w pb ctx nb no := by
  obtain ⟨hf, h⟩ := h
  rcases h with ⟨rfl, a, b, c, d⟩ | ⟨rfl, a, b⟩ | ⟨rfl, a, b⟩
  · exact calm_Object hpb ctx hf hn a b c d (fod_none _ _)
  · exact calm_Null hpb ctx hf hn a b
  · exact calm_Var hpb ctx hf hn a b

/-- A Binary's cells that the own Visit reads. -/
structure Bin (w : World) (base xb : Nat) (TL : TypeId) (xl : Nat) (TR : TypeId) (xr : Nat) (op : Int) (vb : Value) (lb : List FE) (fv : Value) (l : List FE) : Prop where
  c0 : w.cell? ⟨xb, 0, none⟩ = some (.iface TR (.pointer (some ⟨xr, 0, none⟩)))
  c1 : w.cell? ⟨xb, 1, none⟩ = some (.iface TL (.pointer (some ⟨xl, 0, none⟩)))
  c2 : w.cell? ⟨xb, 2, none⟩ = some vb
  c3 : w.cell? ⟨xb, 3, none⟩ = some fv
  c4 : w.cell? ⟨xb, 12, none⟩ = some (.int .i64 op)
  f2 : w.frozen? ⟨xb, 2, none⟩ = false
  f3 : w.frozen? ⟨xb, 3, none⟩ = false
  hb : Fod w base vb lb
  hf : Fod w base fv l
theorem Bin.visit {w : World} {base xb : Nat} {TL : TypeId} {xl : Nat} {TR : TypeId} {xr : Nat} {op : Int} {vb : Value} {lb : List FE} {fv : Value} {l : List FE} (h : Bin w base xb TL xl TR xr op vb lb fv l) {lim pb nb no : Nat} (hpb : IsPass w pb) (ctx : Value) (r : Value)
    (hn : w.cell? ⟨nb, no, none⟩ = some (.iface 51 (.pointer (some ⟨xb, 0, none⟩)))) (hl : LK w lim TL xl) {va : Value} {la : List FE} (hr : RK w base TR xr va la) :
    Calls Tryf.prog 14 #[r, .iface 55 (.pointer (some ⟨pb, 0, none⟩)), .pointer (some ⟨nb, no, none⟩), ctx] w fun e w' => e = .returned (.tuple #[]) ∧ Kept [] w w' :=
  visit_Binary w base r pb nb no xb hpb ctx fv l h.hf hn h.c3 h.f3 (fun w2 k => base_Binary w2 base _ pb xb (hpb.kept k (by simp)) ctx vb lb (h.hb.kept k (by simp)) (k.cell h.c2 (by simp)) ((hl.calm hpb ctx h.c1).kept k) ((hr.calm hpb ctx h.c0).kept k))

set_option maxRecDepth 100000 in
set_option maxHeartbeats 4000000 in
theorem own_keep {w : World} {base xb : Nat} {TL : TypeId} {xl : Nat} {TR : TypeId} {xr : Nat} {op : Int} {vb : Value} {lb : List FE} {fv : Value} {l : List FE} (h : Bin w base xb TL xl TR xr op vb lb fv l) {lim pb nb no : Nat} (hpb : IsPass w pb) (ctx : Value)
    (hn : w.cell? ⟨nb, no, none⟩ = some (.iface 51 (.pointer (some ⟨xb, 0, none⟩)))) (hl : LK w lim TL xl) {va : Value} {la : List FE} (hr : RK w base TR xr va la) (hno : ¬ ((TL = 30 ∨ TL = 74) ∧ TR = 28 ∧ op = 3)) :
    Calls Tryf.prog 6 #[.pointer (some ⟨pb, 0, none⟩), .iface 55 (.pointer (some ⟨pb, 0, none⟩)), .pointer (some ⟨nb, no, none⟩), ctx] w fun e w' => e = .returned (.tuple #[]) ∧ Kept [] w w' := by
  have hv := h.visit hpb ctx (.pointer (some ⟨pb, 0, none⟩)) hn hl hr
  have HV := Lib.hid hv; clear hv
  have hp := part_base w pb hpb
  have c0 := h.c0
  have c1 := h.c1
  have c4 := h.c4
  have tb := fun w => ta_yes_Binary (.pointer (some ⟨xb, 0, none⟩)) 23 w
  obtain ⟨-, hl⟩ := hl
  obtain ⟨-, hr⟩ := hr
  have key : ∀ (T : TypeId) (y : Nat), (T = 30 ∨ T = 74) → T = TL → True := fun _ _ _ _ => trivial
  clear key h
  by_cases hd : TL = 78
  · subst hd
    clear hl hr hno
    have t1 := fun w => ta_no_Var 78 (.pointer (some ⟨xl, 0, none⟩)) 23 w (by decide)
    have t2 := fun w => ta_no_Index 78 (.pointer (some ⟨xl, 0, none⟩)) 23 w (by decide)
    go_enter Tryf.func6, Tryf.ntmps6
    go_wp2_with fail
    refine HV.out.mono ?_
    rintro e w' ⟨rfl, k⟩
    have K := Lib.hid k; clear k
    go_wp2_with fail
    go_end0
    exact ⟨rfl, K.out⟩
  have hl' : TL = 30 ∨ TL = 74 := by
    rcases hl with a | a | a
    · exact Or.inl a.1
    · exact absurd a.1 hd
    · exact Or.inr a.1
  clear hl hd
  by_cases ho : TR = 28
  · subst ho
    have hop : op ≠ 3 := fun e => hno ⟨hl', rfl, e⟩
    have hop' : (op == 3) = false := by simpa using hop
    clear hr hno hop
    have t3 := fun w => ta_yes_Object (.pointer (some ⟨xr, 0, none⟩)) 23 w
    rcases hl' with rfl | rfl
    · have t1 := fun w => ta_yes_Var (.pointer (some ⟨xl, 0, none⟩)) 23 w
      have t2 := fun w => ta_no_Index 30 (.pointer (some ⟨xl, 0, none⟩)) 23 w (by decide)
      go_enter Tryf.func6, Tryf.ntmps6
      go_wp2_with fail
      refine HV.out.mono ?_
      rintro e w' ⟨rfl, k⟩
      have K := Lib.hid k; clear k
      go_wp2_with fail
      go_end0
      exact ⟨rfl, K.out⟩
    · have t1 := fun w => ta_no_Var 74 (.pointer (some ⟨xl, 0, none⟩)) 23 w (by decide)
      have t2 := fun w => ta_yes_Index (.pointer (some ⟨xl, 0, none⟩)) 23 w
      go_enter Tryf.func6, Tryf.ntmps6
      go_wp2_with fail
      refine HV.out.mono ?_
      rintro e w' ⟨rfl, k⟩
      have K := Lib.hid k; clear k
      go_wp2_with fail
      go_end0
      exact ⟨rfl, K.out⟩
  have hr' : TR = 29 ∨ TR = 30 := by
    rcases hr with a | a | a
    · exact absurd a.1 ho
    · exact Or.inl a.1
    · exact Or.inr a.1
  clear hr hno ho
  have t3 : ∀ w, (Instr.typeAssert (.iface TR (.pointer (some ⟨xr, 0, none⟩))) 23 28 true).run Tryf.prog w = .ok (.tuple #[.pointer none, .bool false]) w := fun w => by
    rcases hr' with rfl | rfl
    · exact ta_no_Object 29 _ _ w (by decide)
    · exact ta_no_Object 30 _ _ w (by decide)
  clear hr'
  rcases hl' with rfl | rfl
  · have t1 := fun w => ta_yes_Var (.pointer (some ⟨xl, 0, none⟩)) 23 w
    have t2 := fun w => ta_no_Index 30 (.pointer (some ⟨xl, 0, none⟩)) 23 w (by decide)
    go_enter Tryf.func6, Tryf.ntmps6
    go_wp2_with fail
    refine HV.out.mono ?_
    rintro e w' ⟨rfl, k⟩
    have K := Lib.hid k; clear k
    go_wp2_with fail
    go_end0
    exact ⟨rfl, K.out⟩
  · have t1 := fun w => ta_no_Var 74 (.pointer (some ⟨xl, 0, none⟩)) 23 w (by decide)
    have t2 := fun w => ta_yes_Index (.pointer (some ⟨xl, 0, none⟩)) 23 w
    go_enter Tryf.func6, Tryf.ntmps6
    go_wp2_with fail
    refine HV.out.mono ?_
    rintro e w' ⟨rfl, k⟩
    have K := Lib.hid k; clear k
    go_wp2_with fail
    go_end0
    exact ⟨rfl, K.out⟩
end Go.Proofs.YtaedhbpfmjiheaaFmt
