/- The contracts of PrettyFieldNames.ObjectField at a field that a string literal names. -/
import Derived.Test.YtepipmjcfnncdaaFmtPFpP
namespace Go.Proofs.YtepipmjcfnncdaaFmt
open Go.ChangeShapes Go.WideShapes Go.ChangeAt Go.RowKit

abbrev nilF : Value := .slice none 0 0
abbrev newF (w : World) : Value := .slice (some ⟨w.heap.size, 0, none⟩) 0 0

theorem Fld.kind3 {w : World} {base nb xb : Nat} {idv e1 : Value} (h : Fld w base nb xb 2 idv e1 nilF nilF nilF) : Fld (w.setCell ⟨nb, 15, none⟩ (.int .i64 3)) base nb xb 3 idv e1 nilF nilF nilF := by
  have k : Kept [nb] w (w.setCell ⟨nb, 15, none⟩ (.int .i64 3)) := (Kept.refl [nb] w).setCell (p := ⟨nb, 15, none⟩) (Or.inl (by simp)) _
  have oth : ∀ (p : Nat) (x : Value), p ≠ 15 → w.cell? ⟨nb, p, none⟩ = some x → (w.setCell ⟨nb, 15, none⟩ (.int .i64 3)).cell? ⟨nb, p, none⟩ = some x := fun p x hq hx =>
    (World.cell?_setCell_other _ _ _ _ (fun e => hq (congrArg Addr.off e).symm)).trans hx
  have nx : xb ∉ [nb] := by simp [h.nx]
  exact {
    c0 := oth 0 _ (by omega) h.c0
    c1 := oth 1 _ (by omega) h.c1
    c2 := oth 2 _ (by omega) h.c2
    c3 := oth 3 _ (by omega) h.c3
    c4 := oth 4 _ (by omega) h.c4
    c5 := oth 5 _ (by omega) h.c5
    c6 := oth 6 _ (by omega) h.c6
    c7 := oth 7 _ (by omega) h.c7
    c15 := World.cell?_setCell_same _ _ _ h.c15
    fr := fun o => (World.frozen?_setCell _ _ _ _).trans (h.fr o)
    h1 := fod_nil _ _
    h2 := fod_nil _ _
    h4 := fod_nil _ _
    cx := k.cell h.cx nx
    fx := (k.frozen (World.block_lt_of_cell? w _ h.cx) nx).trans h.fx
    nx := h.nx }

theorem Fld.mv1 {w w' : World} {base nb xb : Nat} {idv e1 : Value} (h : Fld w base nb xb 3 idv e1 nilF nilF nilF) (m : Moved0 w base nb 3 w') : Fld w' base nb xb 3 idv e1 (newF w) nilF nilF := by
  have oth : ∀ (p : Nat) (x : Value), p ≠ 3 → w.cell? ⟨nb, p, none⟩ = some x → w'.cell? ⟨nb, p, none⟩ = some x := fun p x hq hx => (m.r p hq).trans hx
  have nx : xb ∉ [nb] := by simp [h.nx]
  exact {
    c0 := oth 0 _ (by omega) h.c0
    c1 := oth 1 _ (by omega) h.c1
    c2 := oth 2 _ (by omega) h.c2
    c3 := m.c
    c4 := oth 4 _ (by omega) h.c4
    c5 := oth 5 _ (by omega) h.c5
    c6 := oth 6 _ (by omega) h.c6
    c7 := oth 7 _ (by omega) h.c7
    c15 := oth 15 _ (by omega) h.c15
    fr := fun o => (m.z o).trans (h.fr o)
    h1 := m.f
    h2 := fod_nil _ _
    h4 := fod_nil _ _
    cx := m.k.cell h.cx nx
    fx := (m.k.frozen (World.block_lt_of_cell? w _ h.cx) nx).trans h.fx
    nx := h.nx }

theorem Fld.mv2 {w w' : World} {base nb xb : Nat} {idv e1 f1 : Value} (h : Fld w base nb xb 3 idv e1 f1 nilF nilF) (h1 : f1.ownBlock ≠ some nb) (m : Moved0 w base nb 2 w') : Fld w' base nb xb 3 idv e1 f1 (newF w) nilF := by
  have oth : ∀ (p : Nat) (x : Value), p ≠ 2 → w.cell? ⟨nb, p, none⟩ = some x → w'.cell? ⟨nb, p, none⟩ = some x := fun p x hq hx => (m.r p hq).trans hx
  have nx : xb ∉ [nb] := by simp [h.nx]
  exact {
    c0 := oth 0 _ (by omega) h.c0
    c1 := oth 1 _ (by omega) h.c1
    c2 := m.c
    c3 := oth 3 _ (by omega) h.c3
    c4 := oth 4 _ (by omega) h.c4
    c5 := oth 5 _ (by omega) h.c5
    c6 := oth 6 _ (by omega) h.c6
    c7 := oth 7 _ (by omega) h.c7
    c15 := oth 15 _ (by omega) h.c15
    fr := fun o => (m.z o).trans (h.fr o)
    h1 := h.h1.kept m.k (fun g hg hm => by simp at hm; subst hm; exact h1 hg)
    h2 := m.f
    h4 := fod_nil _ _
    cx := m.k.cell h.cx nx
    fx := (m.k.frozen (World.block_lt_of_cell? w _ h.cx) nx).trans h.fx
    nx := h.nx }

/-- The field is named by the id val. -/
def Named (w : World) (base nb xb : Nat) (val : ByteArray) (f2 f4 : Value) (w' : World) : Prop :=
  ∃ ib, Fld w' base nb xb 1 (.pointer (some ⟨ib, 0, none⟩)) .nilIface nilF f2 f4 ∧ w'.cell? ⟨ib, 0, none⟩ = some (.string val) ∧ Kept [nb] w w'

set_option maxRecDepth 100000 in
set_option maxHeartbeats 4000000 in
theorem pf_strL_yes (w : World) (base nb xb yb pb : Nat) (ctx idv f1 f2 f4 : Value) (val : ByteArray) (h : Fld w base nb xb 3 idv (litV yb) f1 f2 f4) (h2 : f2.ownBlock ≠ some nb) (h4 : f4.ownBlock ≠ some nb) (hy : AtLit w yb val) (hyn : yb ≠ nb)
    (hpb : IsPass w pb) (hpn : pb ≠ nb) (hv : val.size ≤ 1048576) (hi : identB val = true) :
    Calls Tryf.prog 82 #[.pointer (some ⟨pb, 0, none⟩), .iface 157 (.pointer (some ⟨pb, 0, none⟩)), .pointer (some ⟨nb, 0, none⟩), ctx] w fun e w' => e = .returned (.tuple #[]) ∧
      Named w base nb xb val f2 f4 w' := by
  have c15 := h.c15
  have c6 := h.c6
  have lv := hy.v
  have H := Lib.hid h; clear h
  have HY := Lib.hid hy; clear hy
  have HPB := Lib.hid hpb; clear hpb
  have HI := Lib.hid hi; clear hi
  have H2 := Lib.hid h2; clear h2
  have H4 := Lib.hid h4; clear h4
  have ta := fun w : World => ta_yes_LiteralString (.pointer (some ⟨yb, 0, none⟩)) 31 w
  go_enter Tryf.func82, Tryf.ntmps82
  go_wp2_with fail
  refine (isValid_any _ val hv).mono ?_
  rintro e w1 ⟨rfl, k1⟩
  rw [HI.out]
  have n := H.out.kept k1
  have y := HY.out.kept k1 (by simp)
  have d1 := n.c1
  have d3 := n.c3
  have d6 := n.c6
  have d15 := n.c15
  have dv := y.v
  have df := y.c
  have q1 := n.fr 1
  have q3 := n.fr 3
  have q6 := n.fr 6
  have q15 := n.fr 15
  have hyn' : nb ≠ yb := Ne.symm hyn
  have z1 : nb < w1.heap.size := World.block_lt_of_cell? w1 _ d1
  have z2 : yb < w1.heap.size := World.block_lt_of_cell? w1 _ dv
  have z3 : nb ≠ w1.heap.size := by omega
  have z4 : w1.heap.size ≠ nb := by omega
  have z5 : yb ≠ w1.heap.size := by omega
  have z6 : w1.heap.size ≠ yb := by omega
  have hpbn : IsPass (fnamed w1 nb val) pb := (HPB.out.kept k1 (by simp)).kept (fnamed_kept w1 nb val) (by simp [hpn])
  have hpart := part_base (fnamed w1 nb val) pb hpbn
  have HPN := Lib.hid hpbn; clear hpbn
  have K1 := Lib.hid k1; clear k1
  have NN := Lib.hid n; clear n y
  clear ta c15 c6 lv
  go_wp2_with fail
  have m := NN.out.named (val := val) H2.out H4.out
  refine (base_Field_Id _ base _ pb nb xb HPN.out _ _ _ f2 f4 m.1).mono ?_
  rintro e w2 ⟨rfl, k2⟩
  have K2 := Lib.hid k2; clear k2
  have M := Lib.hid m; clear m
  go_wp2_with fail
  go_end0
  exact ⟨rfl, w1.heap.size, M.out.1.kept K2.out, K2.out.cell M.out.2 (by simp), ((K1.out.mono (by simp)).trans (fnamed_kept w1 nb val)).trans (K2.out.mono (by simp))⟩
end Go.Proofs.YtepipmjcfnncdaaFmt
