/- The contracts of PrettyFieldNames.Index and of its exported name, at a variable indexed by a string literal. -/
import Derived.Test.YtepipmjcfnncdaaFmtPIxP
import Derived.Test.YtepipmjcfnncdaaFmtIdt
namespace Go.Proofs.YtepipmjcfnncdaaFmt
open Go.ChangeShapes Go.WideShapes Go.ChangeAt Go.RowKit

/-- At nb lies an index node; its target, a variable, at tb; its index, a string literal with the text val and the fodder ll, at lb. -/
structure IdxN (w : World) (base nb tb lb : Nat) (val : ByteArray) (vl vr : Value) (ll lr : List FE) : Prop where
  c0 : w.cell? ⟨nb, 0, none⟩ = some (.iface 58 (.pointer (some ⟨tb, 0, none⟩)))
  ct : w.cell? ⟨tb, 1, none⟩ = some (.slice none 0 0)
  ft : w.frozen? ⟨tb, 1, none⟩ = false
  c1 : w.cell? ⟨nb, 1, none⟩ = some (.iface 25 (.pointer (some ⟨lb, 0, none⟩)))
  c2 : w.cell? ⟨nb, 2, none⟩ = some vr
  c3 : w.cell? ⟨nb, 3, none⟩ = some (.slice none 0 0)
  c4 : w.cell? ⟨nb, 4, none⟩ = some (.pointer none)
  fn : ∀ o, w.frozen? ⟨nb, o, none⟩ = false
  lv : w.cell? ⟨lb, 0, none⟩ = some (.string val)
  lf : w.cell? ⟨lb, 3, none⟩ = some vl
  fl : w.frozen? ⟨lb, 3, none⟩ = false
  hl : Fod w base vl ll
  hr : Fod w base vr lr
  nt : tb ≠ nb
  nl : lb ≠ nb
  ol : vl.ownBlock ≠ some nb

/-- The same node, named by an id. -/
structure IdxI (w : World) (base nb tb ib : Nat) (val : ByteArray) (vr : Value) (lr : List FE) : Prop where
  c0 : w.cell? ⟨nb, 0, none⟩ = some (.iface 58 (.pointer (some ⟨tb, 0, none⟩)))
  ct : w.cell? ⟨tb, 1, none⟩ = some (.slice none 0 0)
  ft : w.frozen? ⟨tb, 1, none⟩ = false
  c1 : w.cell? ⟨nb, 1, none⟩ = some .nilIface
  c2 : w.cell? ⟨nb, 2, none⟩ = some vr
  c3 : w.cell? ⟨nb, 3, none⟩ = some (.slice none 0 0)
  c4 : w.cell? ⟨nb, 4, none⟩ = some (.pointer (some ⟨ib, 0, none⟩))
  iv : w.cell? ⟨ib, 0, none⟩ = some (.string val)
  hr : Fod w base vr lr

theorem IdxN.kept {w w' : World} {base nb tb lb : Nat} {val : ByteArray} {vl vr : Value} {ll lr : List FE} (h : IdxN w base nb tb lb val vl vr ll lr) (q : Kept [] w w') : IdxN w' base nb tb lb val vl vr ll lr where
  c0 := q.cell h.c0 (by simp)
  ct := q.cell h.ct (by simp)
  ft := (q.frozen (World.block_lt_of_cell? w _ h.ct) (by simp)).trans h.ft
  c1 := q.cell h.c1 (by simp)
  c2 := q.cell h.c2 (by simp)
  c3 := q.cell h.c3 (by simp)
  c4 := q.cell h.c4 (by simp)
  fn := fun o => (q.frozen (p := ⟨nb, o, none⟩) (show nb < w.heap.size from World.block_lt_of_cell? w ⟨nb, 0, none⟩ h.c0) (by simp)).trans (h.fn o)
  lv := q.cell h.lv (by simp)
  lf := q.cell h.lf (by simp)
  fl := (q.frozen (World.block_lt_of_cell? w _ h.lf) (by simp)).trans h.fl
  hl := h.hl.kept q (by simp)
  hr := h.hr.kept q (by simp)
  nt := h.nt
  nl := h.nl
  ol := h.ol
theorem IdxI.kept {w w' : World} {base nb tb ib : Nat} {val : ByteArray} {vr : Value} {lr : List FE} (h : IdxI w base nb tb ib val vr lr) (q : Kept [] w w') : IdxI w' base nb tb ib val vr lr where
  c0 := q.cell h.c0 (by simp)
  ct := q.cell h.ct (by simp)
  ft := (q.frozen (World.block_lt_of_cell? w _ h.ct) (by simp)).trans h.ft
  c1 := q.cell h.c1 (by simp)
  c2 := q.cell h.c2 (by simp)
  c3 := q.cell h.c3 (by simp)
  c4 := q.cell h.c4 (by simp)
  iv := q.cell h.iv (by simp)
  hr := h.hr.kept q (by simp)

set_option maxRecDepth 100000 in
theorem neqN (w : World) (t : TypeId) (x : Value) : (binOp .neq 31 (.iface t x) .nilIface).run Tryf.prog w = .ok (.bool true) w := by kernel_rfl
set_option maxRecDepth 100000 in
theorem neqNN (w : World) : (binOp .neq 31 .nilIface .nilIface).run Tryf.prog w = .ok (.bool false) w := by kernel_rfl

set_option maxRecDepth 100000 in
set_option maxHeartbeats 4000000 in
theorem pretty_no (w : World) (base nb tb lb pb : Nat) (ctx : Value) (val : ByteArray) (vl vr : Value) (ll lr : List FE) (h : IdxN w base nb tb lb val vl vr ll lr) (hpb : IsPass w pb) (hv : val.size ≤ 1048576) (hi : identB val = false) :
    Calls Tryf.prog 68 #[.pointer (some ⟨pb, 0, none⟩), .iface 157 (.pointer (some ⟨pb, 0, none⟩)), .pointer (some ⟨nb, 0, none⟩), ctx] w fun e w' => e = .returned (.tuple #[]) ∧ Kept [] w w' := by
  have c1 := h.c1
  have lv := h.lv
  have H := Lib.hid h; clear h
  have HPB := Lib.hid hpb; clear hpb
  have HI := Lib.hid hi; clear hi
  have e1 := fun w => neqN w 25 (.pointer (some ⟨lb, 0, none⟩))
  have ta := fun w : World => ta_yes_LiteralString (.pointer (some ⟨lb, 0, none⟩)) 31 w
  go_enter Tryf.func68, Tryf.ntmps68
  go_wp2_with fail
  refine (isValid_any _ val hv).mono ?_
  rintro e w1 ⟨rfl, k1⟩
  rw [HI.out]
  have hpart := part_base w1 pb (HPB.out.kept k1 (by simp))
  have K1 := Lib.hid k1; clear k1
  clear e1 ta
  go_wp2_with fail
  have n := H.out.kept K1.out
  refine (base_Index_lit _ base _ pb nb tb lb (HPB.out.kept K1.out (by simp)) _ _ _ vl vr [] [] ll lr (fod_nil _ _) (fod_nil _ _) n.hl n.hr n.c0 n.ct n.ft n.c3 n.c4 n.c1 n.lf n.fl n.c2).mono ?_
  rintro e w2 ⟨rfl, k2⟩
  have K2 := Lib.hid (K1.out.trans k2); clear k2 n
  go_wp2_with fail
  go_end0
  exact ⟨rfl, K2.out⟩

set_option maxRecDepth 100000 in
set_option maxHeartbeats 4000000 in
theorem pretty_id (w : World) (base nb tb ib pb : Nat) (ctx : Value) (val : ByteArray) (vr : Value) (lr : List FE) (h : IdxI w base nb tb ib val vr lr) (hpb : IsPass w pb) :
    Calls Tryf.prog 68 #[.pointer (some ⟨pb, 0, none⟩), .iface 157 (.pointer (some ⟨pb, 0, none⟩)), .pointer (some ⟨nb, 0, none⟩), ctx] w fun e w' => e = .returned (.tuple #[]) ∧ Kept [] w w' := by
  have c1 := h.c1
  have H := Lib.hid h; clear h
  have HPB := Lib.hid hpb; clear hpb
  have e1 := fun w => neqNN w
  have hpart := part_base w pb HPB.out
  go_enter Tryf.func68, Tryf.ntmps68
  go_wp2_with fail
  have n := H.out
  refine (base_Index_id _ base _ pb nb tb ib HPB.out _ _ _ [] [] (fod_nil _ _) (fod_nil _ _) n.c0 n.ct n.ft n.c3 n.c4).mono ?_
  rintro e w2 ⟨rfl, k2⟩
  have K2 := Lib.hid k2; clear k2 n
  go_wp2_with fail
  go_end0
  exact ⟨rfl, K2.out⟩

/-- The world in which the node is named by an id. -/
abbrev named (w : World) (nb : Nat) (val : ByteArray) (vl : Value) : World :=
  (((w.setCell ⟨nb, 1, none⟩ .nilIface).setCell ⟨nb, 4, none⟩ (.pointer (some ⟨w.heap.size, 0, none⟩))).setCell ⟨nb, 2, none⟩ vl).alloc (.cells #[.string val] 48)

theorem named_kept (w : World) (nb : Nat) (val : ByteArray) (vl : Value) : Kept [nb] w (named w nb val vl) :=
  ((((Kept.refl [nb] w).setCell (p := ⟨nb, 1, none⟩) (Or.inl (by simp)) _).setCell (p := ⟨nb, 4, none⟩) (Or.inl (by simp)) _).setCell (p := ⟨nb, 2, none⟩) (Or.inl (by simp)) _).alloc _

theorem IdxN.named {w : World} {base nb tb lb : Nat} {val : ByteArray} {vl vr : Value} {ll lr : List FE} (h : IdxN w base nb tb lb val vl vr ll lr) : IdxI (named w nb val vl) base nb tb w.heap.size val vl ll := by
  have k := named_kept w nb val vl
  have hb : nb < w.heap.size := World.block_lt_of_cell? w ⟨nb, 0, none⟩ h.c0
  have at_ : ∀ o x, o ≠ 1 → o ≠ 4 → o ≠ 2 → w.cell? ⟨nb, o, none⟩ = some x → (Go.Proofs.YtepipmjcfnncdaaFmt.named w nb val vl).cell? ⟨nb, o, none⟩ = some x := by
    intro o x h1 h4 h2 hc
    unfold Go.Proofs.YtepipmjcfnncdaaFmt.named
    have e : ∀ (W : World) (q : Nat) (u : Value), o ≠ q → (W.setCell ⟨nb, q, none⟩ u).cell? ⟨nb, o, none⟩ = W.cell? ⟨nb, o, none⟩ := fun W q u hq =>
      World.cell?_setCell_other _ _ _ _ (fun e => hq (congrArg Addr.off e).symm)
    exact ((Kept.refl [] _).alloc _).cell ((e _ 2 _ h2).trans ((e _ 4 _ h4).trans ((e _ 1 _ h1).trans hc))) (by simp)
  have same : ∀ (W : World) (q : Nat) (u x : Value), W.cell? ⟨nb, q, none⟩ = some x → (W.setCell ⟨nb, q, none⟩ u).cell? ⟨nb, q, none⟩ = some u := fun W q u x hx => World.cell?_setCell_same _ _ _ hx
  have oth : ∀ (W : World) (p q : Nat) (u x : Value), p ≠ q → W.cell? ⟨nb, p, none⟩ = some x → (W.setCell ⟨nb, q, none⟩ u).cell? ⟨nb, p, none⟩ = some x := fun W p q u x hq hx =>
    (World.cell?_setCell_other _ _ _ _ (fun e => hq (congrArg Addr.off e).symm)).trans hx
  have nt : tb ∉ [nb] := by simp [h.nt]
  exact {
    c0 := at_ 0 _ (by omega) (by omega) (by omega) h.c0
    ct := k.cell h.ct nt
    ft := (k.frozen (World.block_lt_of_cell? w _ h.ct) nt).trans h.ft
    c1 := ((Kept.refl [] _).alloc _).cell (oth _ 1 2 _ _ (by omega) (oth _ 1 4 _ _ (by omega) (same w 1 _ _ h.c1))) (by simp)
    c2 := ((Kept.refl [] _).alloc _).cell (same _ 2 _ _ (oth _ 2 4 _ _ (by omega) (oth w 2 1 _ _ (by omega) h.c2))) (by simp)
    c3 := at_ 3 _ (by omega) (by omega) (by omega) h.c3
    c4 := ((Kept.refl [] _).alloc _).cell (oth _ 4 2 _ _ (by omega) (same _ 4 _ _ (oth w 4 1 _ _ (by omega) h.c4))) (by simp)
    iv := by
      have e := heap_alloc_new (((w.setCell ⟨nb, 1, none⟩ .nilIface).setCell ⟨nb, 4, none⟩ (.pointer (some ⟨w.heap.size, 0, none⟩))).setCell ⟨nb, 2, none⟩ vl) (.cells #[.string val] 48)
      rw [show (((w.setCell ⟨nb, 1, none⟩ .nilIface).setCell ⟨nb, 4, none⟩ (.pointer (some ⟨w.heap.size, 0, none⟩))).setCell ⟨nb, 2, none⟩ vl).heap.size = w.heap.size by simp] at e
      exact cell_of_block e 0
    hr := h.hl.kept k (fun g hg hm => by
      simp at hm
      subst hm
      exact h.ol hg) }

set_option maxRecDepth 100000 in
set_option maxHeartbeats 4000000 in
theorem pretty_yes (w : World) (base nb tb lb pb : Nat) (ctx : Value) (val : ByteArray) (vl vr : Value) (ll lr : List FE) (h : IdxN w base nb tb lb val vl vr ll lr) (hpb : IsPass w pb) (hpn : pb ≠ nb) (hv : val.size ≤ 1048576) (hi : identB val = true) :
    Calls Tryf.prog 68 #[.pointer (some ⟨pb, 0, none⟩), .iface 157 (.pointer (some ⟨pb, 0, none⟩)), .pointer (some ⟨nb, 0, none⟩), ctx] w fun e w' => e = .returned (.tuple #[]) ∧
      ∃ ib, IdxI w' base nb tb ib val vl ll ∧ Kept [nb] w w' := by
  have c1 := h.c1
  have lv := h.lv
  obtain ⟨fa, fn, fc, rfl⟩ := h.hl.isSlice
  have H := Lib.hid h; clear h
  have HPB := Lib.hid hpb; clear hpb
  have HI := Lib.hid hi; clear hi
  have e1 := fun w => neqN w 25 (.pointer (some ⟨lb, 0, none⟩))
  have ta := fun w : World => ta_yes_LiteralString (.pointer (some ⟨lb, 0, none⟩)) 31 w
  go_enter Tryf.func68, Tryf.ntmps68
  go_wp2_with fail
  refine (isValid_any _ val hv).mono ?_
  rintro e w1 ⟨rfl, k1⟩
  rw [HI.out]
  have n := H.out.kept k1
  have d1 := n.c1
  have d2 := n.c2
  have d4 := n.c4
  have dv := n.lv
  have df := n.lf
  have f1 := n.fn 1
  have f2 := n.fn 2
  have f4 := n.fn 4
  have nl := n.nl
  have nl' : nb ≠ lb := Ne.symm nl
  have z1 : nb < w1.heap.size := World.block_lt_of_cell? w1 _ d1
  have z2 : lb < w1.heap.size := World.block_lt_of_cell? w1 _ dv
  have z3 : nb ≠ w1.heap.size := by omega
  have z4 : w1.heap.size ≠ nb := by omega
  have z5 : lb ≠ w1.heap.size := by omega
  have z6 : w1.heap.size ≠ lb := by omega
  have hpbn : IsPass (named w1 nb val (.slice fa fn fc)) pb := (HPB.out.kept k1 (by simp)).kept (named_kept w1 nb val (.slice fa fn fc)) (by simp [hpn])
  have hpart := part_base (named w1 nb val (.slice fa fn fc)) pb hpbn
  have HPN := Lib.hid hpbn; clear hpbn
  have K1 := Lib.hid k1; clear k1
  have NN := Lib.hid n; clear n
  clear e1 ta c1 lv
  go_wp2_with fail
  have m := NN.out.named
  refine (base_Index_id _ base _ pb nb tb w1.heap.size HPN.out _ _ _ [] [] (fod_nil _ _) (fod_nil _ _) m.c0 m.ct m.ft m.c3 m.c4).mono ?_
  rintro e w2 ⟨rfl, k2⟩
  have K2 := Lib.hid k2; clear k2 m
  go_wp2_with fail
  go_end0
  exact ⟨rfl, w1.heap.size, NN.out.named.kept K2.out, ((K1.out.mono (by simp)).trans (named_kept w1 nb val _)).trans (K2.out.mono (by simp))⟩
end Go.Proofs.YtepipmjcfnncdaaFmt
