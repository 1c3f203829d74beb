/- The contracts of PrettyFieldNames.ObjectField and of its exported name, at fields without fodder. -/
import Derived.Test.YtepipmjcfnncdaaFmtPFdP
import Derived.Test.YtepipmjcfnncdaaFmtPIlP
import Derived.Test.YtepipmjcfnncdaaFmtFM0
namespace Go.Proofs.YtepipmjcfnncdaaFmt
open Go.ChangeShapes Go.WideShapes Go.ChangeAt Go.RowKit

abbrev varV (x : Nat) : Value := .iface 58 (.pointer (some ⟨x, 0, none⟩))
abbrev litV (x : Nat) : Value := .iface 25 (.pointer (some ⟨x, 0, none⟩))

/-- A variable lies there. -/
structure AtVar (w : World) (yb : Nat) : Prop where
  c : w.cell? ⟨yb, 1, none⟩ = some (.slice none 0 0)
  f : w.frozen? ⟨yb, 1, none⟩ = false
/-- A string literal without fodder lies there. -/
structure AtLit (w : World) (yb : Nat) (val : ByteArray) : Prop where
  v : w.cell? ⟨yb, 0, none⟩ = some (.string val)
  c : w.cell? ⟨yb, 3, none⟩ = some (.slice none 0 0)
  f : w.frozen? ⟨yb, 3, none⟩ = false
theorem AtVar.kept {S : List Nat} {w w' : World} {yb : Nat} (h : AtVar w yb) (q : Kept S w w') (hn : yb ∉ S) : AtVar w' yb := ⟨q.cell h.c hn, (q.frozen (World.block_lt_of_cell? w _ h.c) hn).trans h.f⟩
theorem AtLit.kept {S : List Nat} {w w' : World} {yb : Nat} {val : ByteArray} (h : AtLit w yb val) (q : Kept S w w') (hn : yb ∉ S) : AtLit w' yb val :=
  ⟨q.cell h.v hn, q.cell h.c hn, (q.frozen (World.block_lt_of_cell? w _ h.c) hn).trans h.f⟩

set_option maxRecDepth 100000 in
set_option maxHeartbeats 4000000 in
theorem pf_id (w : World) (base nb xb pb : Nat) (ctx idv f1 f2 f4 : Value) (h : Fld w base nb xb 1 idv .nilIface f1 f2 f4) (hpb : IsPass w pb) :
    Calls Tryf.prog 82 #[.pointer (some ⟨pb, 0, none⟩), .iface 157 (.pointer (some ⟨pb, 0, none⟩)), .pointer (some ⟨nb, 0, none⟩), ctx] w fun e w' => e = .returned (.tuple #[]) ∧ Kept [] w w' := by
  have c15 := h.c15
  have H := Lib.hid h; clear h
  have HPB := Lib.hid hpb; clear hpb
  have hpart := part_base w pb HPB.out
  go_enter Tryf.func82, Tryf.ntmps82
  go_wp2_with fail
  refine (base_Field_Id _ base _ pb nb xb HPB.out _ idv f1 f2 f4 H.out).mono ?_
  rintro e w2 ⟨rfl, k2⟩
  have K2 := Lib.hid k2; clear k2
  go_wp2_with fail
  go_end0
  exact ⟨rfl, K2.out⟩

set_option maxRecDepth 100000 in
set_option maxHeartbeats 4000000 in
theorem pf_strV (w : World) (base nb xb yb pb : Nat) (ctx idv f1 f2 f4 : Value) (h : Fld w base nb xb 3 idv (varV yb) f1 f2 f4) (hy : AtVar w yb) (hpb : IsPass w pb) :
    Calls Tryf.prog 82 #[.pointer (some ⟨pb, 0, none⟩), .iface 157 (.pointer (some ⟨pb, 0, none⟩)), .pointer (some ⟨nb, 0, none⟩), ctx] w fun e w' => e = .returned (.tuple #[]) ∧ Kept [] w w' := by
  have c15 := h.c15
  have c6 := h.c6
  have H := Lib.hid h; clear h
  have HY := Lib.hid hy; clear hy
  have HPB := Lib.hid hpb; clear hpb
  have hpart := part_base w pb HPB.out
  have ta := fun w : World => ta_no_LiteralString 58 (.pointer (some ⟨yb, 0, none⟩)) 31 w (by decide)
  go_enter Tryf.func82, Tryf.ntmps82
  go_wp2_with fail
  refine (base_Field_StrV _ base _ pb nb xb yb HPB.out _ idv f1 f2 f4 _ H.out (fod_nil _ _) HY.out.c HY.out.f).mono ?_
  rintro e w2 ⟨rfl, k2⟩
  have K2 := Lib.hid k2; clear k2
  go_wp2_with fail
  go_end0
  exact ⟨rfl, K2.out⟩

set_option maxRecDepth 100000 in
set_option maxHeartbeats 4000000 in
theorem pf_expV (w : World) (base nb xb yb pb : Nat) (ctx idv f1 f2 f4 : Value) (h : Fld w base nb xb 2 idv (varV yb) f1 f2 f4) (hy : AtVar w yb) (hpb : IsPass w pb) :
    Calls Tryf.prog 82 #[.pointer (some ⟨pb, 0, none⟩), .iface 157 (.pointer (some ⟨pb, 0, none⟩)), .pointer (some ⟨nb, 0, none⟩), ctx] w fun e w' => e = .returned (.tuple #[]) ∧ Kept [] w w' := by
  have c15 := h.c15
  have c6 := h.c6
  have H := Lib.hid h; clear h
  have HY := Lib.hid hy; clear hy
  have HPB := Lib.hid hpb; clear hpb
  have hpart := part_base w pb HPB.out
  have ta := fun w : World => ta_no_LiteralString 58 (.pointer (some ⟨yb, 0, none⟩)) 31 w (by decide)
  go_enter Tryf.func82, Tryf.ntmps82
  go_wp2_with fail
  refine (base_Field_ExpV _ base _ pb nb xb yb HPB.out _ idv f1 f2 f4 _ H.out (fod_nil _ _) HY.out.c HY.out.f).mono ?_
  rintro e w2 ⟨rfl, k2⟩
  have K2 := Lib.hid k2; clear k2
  go_wp2_with fail
  go_end0
  exact ⟨rfl, K2.out⟩

set_option maxRecDepth 100000 in
set_option maxHeartbeats 4000000 in
theorem pf_strL_no (w : World) (base nb xb yb pb : Nat) (ctx idv f1 f2 f4 : Value) (val : ByteArray) (h : Fld w base nb xb 3 idv (litV yb) f1 f2 f4) (hy : AtLit w yb val) (hpb : IsPass w pb) (hv : val.size ≤ 1048576) (hi : identB val = false) :
    Calls Tryf.prog 82 #[.pointer (some ⟨pb, 0, none⟩), .iface 157 (.pointer (some ⟨pb, 0, none⟩)), .pointer (some ⟨nb, 0, none⟩), ctx] w fun e w' => e = .returned (.tuple #[]) ∧ Kept [] w w' := by
  have c15 := h.c15
  have c6 := h.c6
  have lv := hy.v
  have H := Lib.hid h; clear h
  have HY := Lib.hid hy; clear hy
  have HPB := Lib.hid hpb; clear hpb
  have HI := Lib.hid hi; clear hi
  have ta := fun w : World => ta_yes_LiteralString (.pointer (some ⟨yb, 0, none⟩)) 31 w
  go_enter Tryf.func82, Tryf.ntmps82
  go_wp2_with fail
  refine (isValid_any _ val hv).mono ?_
  rintro e w1 ⟨rfl, k1⟩
  rw [HI.out]
  have hpart := part_base w1 pb (HPB.out.kept k1 (by simp))
  have K1 := Lib.hid k1; clear k1
  clear ta c15 c6 lv
  go_wp2_with fail
  refine (base_Field_StrL _ base _ pb nb xb yb (HPB.out.kept K1.out (by simp)) _ idv f1 f2 f4 _ (H.out.kept K1.out) (fod_nil _ _) (HY.out.kept K1.out (by simp)).c (HY.out.kept K1.out (by simp)).f).mono ?_
  rintro e w2 ⟨rfl, k2⟩
  have K2 := Lib.hid (K1.out.trans k2); clear k2
  go_wp2_with fail
  go_end0
  exact ⟨rfl, K2.out⟩

/-- The world in which the field is named by an id. -/
abbrev fnamed (w : World) (nb : Nat) (val : ByteArray) : World :=
  ((((w.setCell ⟨nb, 15, none⟩ (.int .i64 1)).setCell ⟨nb, 1, none⟩ (.pointer (some ⟨w.heap.size, 0, none⟩))).setCell ⟨nb, 3, none⟩ (.slice none 0 0)).setCell ⟨nb, 6, none⟩ .nilIface).alloc (.cells #[.string val] 48)

theorem fnamed_kept (w : World) (nb : Nat) (val : ByteArray) : Kept [nb] w (fnamed w nb val) :=
  (((((Kept.refl [nb] w).setCell (p := ⟨nb, 15, none⟩) (Or.inl (by simp)) _).setCell (p := ⟨nb, 1, none⟩) (Or.inl (by simp)) _).setCell (p := ⟨nb, 3, none⟩) (Or.inl (by simp)) _).setCell (p := ⟨nb, 6, none⟩) (Or.inl (by simp)) _).alloc _

theorem Fld.named {w : World} {base nb xb : Nat} {idv e1 f1 f2 f4 : Value} {val : ByteArray} (h : Fld w base nb xb 3 idv e1 f1 f2 f4) (h2 : f2.ownBlock ≠ some nb) (h4 : f4.ownBlock ≠ some nb) :
    Fld (fnamed w nb val) base nb xb 1 (.pointer (some ⟨w.heap.size, 0, none⟩)) .nilIface (.slice none 0 0) f2 f4 ∧ (fnamed w nb val).cell? ⟨w.heap.size, 0, none⟩ = some (.string val) := by
  have k := fnamed_kept w nb val
  have hb : nb < w.heap.size := World.block_lt_of_cell? w ⟨nb, 0, none⟩ h.c0
  have oth : ∀ (W : World) (p q : Nat) (u x : Value), p ≠ q → W.cell? ⟨nb, p, none⟩ = some x → (W.setCell ⟨nb, q, none⟩ u).cell? ⟨nb, p, none⟩ = some x := fun W p q u x hq hx =>
    (World.cell?_setCell_other _ _ _ _ (fun e => hq (congrArg Addr.off e).symm)).trans hx
  have same : ∀ (W : World) (q : Nat) (u x : Value), W.cell? ⟨nb, q, none⟩ = some x → (W.setCell ⟨nb, q, none⟩ u).cell? ⟨nb, q, none⟩ = some u := fun W q u x hx => World.cell?_setCell_same _ _ _ hx
  have al : ∀ {W : World} {p : Addr} {x : Value}, W.cell? p = some x → (W.alloc (.cells #[.string val] 48)).cell? p = some x := fun hx => ((Kept.refl [] _).alloc _).cell hx (by simp)
  have at_ : ∀ o x, o ≠ 15 → o ≠ 1 → o ≠ 3 → o ≠ 6 → w.cell? ⟨nb, o, none⟩ = some x → (fnamed w nb val).cell? ⟨nb, o, none⟩ = some x := by
    intro o x h15 h1 h3 h6 hc
    exact al (oth _ o 6 _ _ h6 (oth _ o 3 _ _ h3 (oth _ o 1 _ _ h1 (oth _ o 15 _ _ h15 hc))))
  have nx : xb ∉ [nb] := by simp [h.nx]
  have own : ∀ v : Value, v.ownBlock ≠ some nb → ∀ g, v.ownBlock = some g → g ∉ [nb] := fun v hv g hg hm => by
    simp at hm
    subst hm
    exact hv hg
  refine ⟨?_, ?_⟩
  · exact {
      c0 := at_ 0 _ (by omega) (by omega) (by omega) (by omega) h.c0
      c1 := al (oth _ 1 6 _ _ (by omega) (oth _ 1 3 _ _ (by omega) (same _ 1 _ _ (oth w 1 15 _ _ (by omega) h.c1))))
      c2 := at_ 2 _ (by omega) (by omega) (by omega) (by omega) h.c2
      c3 := al (oth _ 3 6 _ _ (by omega) (same _ 3 _ _ (oth _ 3 1 _ _ (by omega) (oth w 3 15 _ _ (by omega) h.c3))))
      c4 := at_ 4 _ (by omega) (by omega) (by omega) (by omega) h.c4
      c5 := at_ 5 _ (by omega) (by omega) (by omega) (by omega) h.c5
      c6 := al (same _ 6 _ _ (oth _ 6 3 _ _ (by omega) (oth _ 6 1 _ _ (by omega) (oth w 6 15 _ _ (by omega) h.c6))))
      c7 := at_ 7 _ (by omega) (by omega) (by omega) (by omega) h.c7
      c15 := al (oth _ 15 6 _ _ (by omega) (oth _ 15 3 _ _ (by omega) (oth _ 15 1 _ _ (by omega) (same w 15 _ _ h.c15))))
      fr := fun o => by
        have : (fnamed w nb val).frozen? ⟨nb, o, none⟩ = w.frozen? ⟨nb, o, none⟩ := by
          refine (((Kept.refl [] _).alloc _).frozen (p := ⟨nb, o, none⟩) (by simpa using hb) (by simp)).trans ?_
          simp
        rw [this]
        exact h.fr o
      h1 := fod_nil _ _
      h2 := h.h2.kept k (own _ h2)
      h4 := h.h4.kept k (own _ h4)
      cx := k.cell h.cx nx
      fx := (k.frozen (World.block_lt_of_cell? w _ h.cx) nx).trans h.fx
      nx := h.nx }
  · have e := heap_alloc_new ((((w.setCell ⟨nb, 15, none⟩ (.int .i64 1)).setCell ⟨nb, 1, none⟩ (.pointer (some ⟨w.heap.size, 0, none⟩))).setCell ⟨nb, 3, none⟩ (.slice none 0 0)).setCell ⟨nb, 6, none⟩ .nilIface) (.cells #[.string val] 48)
    rw [show ((((w.setCell ⟨nb, 15, none⟩ (.int .i64 1)).setCell ⟨nb, 1, none⟩ (.pointer (some ⟨w.heap.size, 0, none⟩))).setCell ⟨nb, 3, none⟩ (.slice none 0 0)).setCell ⟨nb, 6, none⟩ .nilIface).heap.size = w.heap.size by simp] at e
    exact cell_of_block e 0
end Go.Proofs.YtepipmjcfnncdaaFmt
