/- The contracts of PrettyFieldNames.ObjectField at a computed field that is a string literal. -/
import Derived.Test.YtepipmjcfnncdaaFmtPFqP
namespace Go.Proofs.YtepipmjcfnncdaaFmt
open Go.ChangeShapes Go.WideShapes Go.ChangeAt Go.RowKit

/-- The field is named by the string literal at yb. -/
def Stays (w : World) (base nb xb yb : Nat) (idv : Value) (w' : World) : Prop := ∃ f1 f2, Fld w' base nb xb 3 idv (litV yb) f1 f2 nilF ∧ Kept [nb] w w'
/-- The field is named by the id val. -/
def Named2 (w : World) (base nb xb : Nat) (val : ByteArray) (w' : World) : Prop :=
  ∃ ib f2, Fld w' base nb xb 1 (.pointer (some ⟨ib, 0, none⟩)) .nilIface nilF f2 nilF ∧ w'.cell? ⟨ib, 0, none⟩ = some (.string val) ∧ Kept [nb] w w'

set_option maxRecDepth 100000 in
set_option maxHeartbeats 4000000 in
theorem pf_expL_no (w : World) (base nb xb yb pb : Nat) (ctx idv : Value) (val : ByteArray) (h : Fld w base nb xb 2 idv (litV yb) nilF nilF nilF) (hy : AtLit w yb val) (hyn : yb ≠ nb)
    (hpb : IsPass w pb) (hpn : pb ≠ nb) (hv : val.size ≤ 1048576) (hi : identB val = false) (hbs : base ≤ w.heap.size) :
    Calls Tryf.prog 82 #[.pointer (some ⟨pb, 0, none⟩), .iface 157 (.pointer (some ⟨pb, 0, none⟩)), .pointer (some ⟨nb, 0, none⟩), ctx] w fun e w' => e = .returned (.tuple #[]) ∧
      Stays w base nb xb yb idv w' := by
  have c15 := h.c15
  have c6 := h.c6
  have c0 := h.c0
  have q15 := h.fr 15
  have H3 := Lib.hid h.kind3; clear h
  have HY := Lib.hid hy; clear hy
  have HPB := Lib.hid hpb; clear hpb
  have HI := Lib.hid hi; clear hi
  obtain ⟨wa, hwa⟩ : ∃ wa, w.setCell ⟨nb, 15, none⟩ (.int .i64 3) = wa := ⟨_, rfl⟩
  have ka : Kept [nb] w wa := hwa ▸ (Kept.refl [nb] w).setCell (p := ⟨nb, 15, none⟩) (Or.inl (by simp)) _
  have KA := Lib.hid ka; clear ka
  rw [hwa] at H3
  have ta := fun w : World => ta_yes_LiteralString (.pointer (some ⟨yb, 0, none⟩)) 31 w
  have hsz : w.heap.size ≤ wa.heap.size := KA.out.size
  go_enter Tryf.func82, Tryf.ntmps82
  go_wp2_with fail
  go_still_tail 7, (by kernel_rfl)
  go_wp2_with fail
  have qa : Kept [] wa wa.drew := (Kept.refl [] wa).drew
  have na := H3.out.kept qa
  have ya := (HY.out.kept KA.out (by simp [hyn])).kept qa (by simp)
  refine (fmove_nil _ yb 3 nb 3 ya.c na.c3 ya.f (na.fr 3) base (Nat.le_trans hbs (Nat.le_trans hsz qa.size))).mono ?_
  rintro e wb ⟨rfl, mb⟩
  have nb1 := na.mv1 mb
  have yb1 := ya.kept mb.k (by simp [hyn])
  have kb : Kept [nb] w wb := (KA.out.trans (qa.mono (by simp))).trans mb.k
  have hnb : nb < w.heap.size := World.block_lt_of_cell? w _ c0
  have c0b := nb1.c0
  have KB := Lib.hid kb; clear kb
  have NB := Lib.hid nb1; clear nb1
  have YB := Lib.hid yb1; clear yb1
  have o1 : (newF wa.drew).ownBlock ≠ some nb := by
    intro e
    have e2 : wa.drew.heap.size = nb := by simpa [Value.ownBlock] using e
    have e3 : wa.heap.size = nb := e2
    omega
  have O1 := Lib.hid o1; clear o1
  clear na ya mb qa
  go_wp2_with fail
  go_still_tail 6, (by kernel_rfl)
  go_wp2_with fail
  have qb : Kept [] wb wb.drew := (Kept.refl [] wb).drew
  have nb2 := NB.out.kept qb
  refine (fmove_nil _ nb 4 nb 2 nb2.c4 nb2.c2 (nb2.fr 4) (nb2.fr 2) base (Nat.le_trans hbs (Nat.le_trans KB.out.size qb.size))).mono ?_
  rintro e wc ⟨rfl, mc⟩
  have nc := nb2.mv2 O1.out mc
  have yc := (YB.out.kept qb (by simp)).kept mc.k (by simp [hyn])
  have kc : Kept [nb] w wc := (KB.out.trans (qb.mono (by simp))).trans mc.k
  have o2 : (newF wb.drew).ownBlock ≠ some nb := by
    intro e
    have e2 : wb.drew.heap.size = nb := by simpa [Value.ownBlock] using e
    have e3 : wb.heap.size = nb := e2
    have := KB.out.size
    omega
  have c15c := nc.c15
  have c6c := nc.c6
  have lvc := yc.v
  have pc := HPB.out.kept kc (by simp [hpn])
  have KC := Lib.hid kc; clear kc
  have NC := Lib.hid nc; clear nc
  have YC := Lib.hid yc; clear yc
  have O2 := Lib.hid o2; clear o2
  have PC := Lib.hid pc; clear pc
  clear nb2 mc qb c0b
  go_wp2_with fail
  refine (isValid_any _ val hv).mono ?_
  rintro e w1 ⟨rfl, k1⟩
  rw [HI.out]
  have hpart := part_base w1 pb (PC.out.kept k1 (by simp))
  have K1 := Lib.hid k1; clear k1
  clear ta c15c c6c lvc
  go_wp2_with fail
  have n := NC.out.kept K1.out
  refine (base_Field_StrL _ base _ pb nb xb yb (PC.out.kept K1.out (by simp)) _ idv _ _ _ _ n (fod_nil _ _) (YC.out.kept K1.out (by simp)).c (YC.out.kept K1.out (by simp)).f).mono ?_
  rintro e w2 ⟨rfl, k2⟩
  have K2 := Lib.hid (K1.out.trans k2); clear k2 n
  go_wp2_with fail
  go_end0
  exact ⟨rfl, _, _, NC.out.kept K2.out, KC.out.trans (K2.out.mono (by simp))⟩

set_option maxRecDepth 100000 in
set_option maxHeartbeats 4000000 in
theorem pf_expL_yes (w : World) (base nb xb yb pb : Nat) (ctx idv : Value) (val : ByteArray) (h : Fld w base nb xb 2 idv (litV yb) nilF nilF nilF) (hy : AtLit w yb val) (hyn : yb ≠ nb)
    (hpb : IsPass w pb) (hpn : pb ≠ nb) (hv : val.size ≤ 1048576) (hi : identB val = true) (hbs : base ≤ w.heap.size) :
    Calls Tryf.prog 82 #[.pointer (some ⟨pb, 0, none⟩), .iface 157 (.pointer (some ⟨pb, 0, none⟩)), .pointer (some ⟨nb, 0, none⟩), ctx] w fun e w' => e = .returned (.tuple #[]) ∧
      Named2 w base nb xb val w' := by
  have c15 := h.c15
  have c6 := h.c6
  have c0 := h.c0
  have q15 := h.fr 15
  have H3 := Lib.hid h.kind3; clear h
  have HY := Lib.hid hy; clear hy
  have HPB := Lib.hid hpb; clear hpb
  have HI := Lib.hid hi; clear hi
  obtain ⟨wa, hwa⟩ : ∃ wa, w.setCell ⟨nb, 15, none⟩ (.int .i64 3) = wa := ⟨_, rfl⟩
  have ka : Kept [nb] w wa := hwa ▸ (Kept.refl [nb] w).setCell (p := ⟨nb, 15, none⟩) (Or.inl (by simp)) _
  have KA := Lib.hid ka; clear ka
  rw [hwa] at H3
  have ta := fun w : World => ta_yes_LiteralString (.pointer (some ⟨yb, 0, none⟩)) 31 w
  have hsz : w.heap.size ≤ wa.heap.size := KA.out.size
  go_enter Tryf.func82, Tryf.ntmps82
  go_wp2_with fail
  go_still_tail 7, (by kernel_rfl)
  go_wp2_with fail
  have qa : Kept [] wa wa.drew := (Kept.refl [] wa).drew
  have na := H3.out.kept qa
  have ya := (HY.out.kept KA.out (by simp [hyn])).kept qa (by simp)
  refine (fmove_nil _ yb 3 nb 3 ya.c na.c3 ya.f (na.fr 3) base (Nat.le_trans hbs (Nat.le_trans hsz qa.size))).mono ?_
  rintro e wb ⟨rfl, mb⟩
  have nb1 := na.mv1 mb
  have yb1 := ya.kept mb.k (by simp [hyn])
  have kb : Kept [nb] w wb := (KA.out.trans (qa.mono (by simp))).trans mb.k
  have hnb : nb < w.heap.size := World.block_lt_of_cell? w _ c0
  have c0b := nb1.c0
  have KB := Lib.hid kb; clear kb
  have NB := Lib.hid nb1; clear nb1
  have YB := Lib.hid yb1; clear yb1
  have o1 : (newF wa.drew).ownBlock ≠ some nb := by
    intro e
    have e2 : wa.drew.heap.size = nb := by simpa [Value.ownBlock] using e
    have e3 : wa.heap.size = nb := e2
    omega
  have O1 := Lib.hid o1; clear o1
  clear na ya mb qa
  go_wp2_with fail
  go_still_tail 6, (by kernel_rfl)
  go_wp2_with fail
  have qb : Kept [] wb wb.drew := (Kept.refl [] wb).drew
  have nb2 := NB.out.kept qb
  refine (fmove_nil _ nb 4 nb 2 nb2.c4 nb2.c2 (nb2.fr 4) (nb2.fr 2) base (Nat.le_trans hbs (Nat.le_trans KB.out.size qb.size))).mono ?_
  rintro e wc ⟨rfl, mc⟩
  have nc := nb2.mv2 O1.out mc
  have yc := (YB.out.kept qb (by simp)).kept mc.k (by simp [hyn])
  have kc : Kept [nb] w wc := (KB.out.trans (qb.mono (by simp))).trans mc.k
  have o2 : (newF wb.drew).ownBlock ≠ some nb := by
    intro e
    have e2 : wb.drew.heap.size = nb := by simpa [Value.ownBlock] using e
    have e3 : wb.heap.size = nb := e2
    have := KB.out.size
    omega
  have c15c := nc.c15
  have c6c := nc.c6
  have lvc := yc.v
  have pc := HPB.out.kept kc (by simp [hpn])
  have KC := Lib.hid kc; clear kc
  have NC := Lib.hid nc; clear nc
  have YC := Lib.hid yc; clear yc
  have O2 := Lib.hid o2; clear o2
  have PC := Lib.hid pc; clear pc
  clear nb2 mc qb c0b
  go_wp2_with fail
  refine (isValid_any _ val hv).mono ?_
  rintro e w1 ⟨rfl, k1⟩
  rw [HI.out]
  have n := NC.out.kept k1
  have y := YC.out.kept k1 (by simp)
  have d1 := n.c1
  have d3 := n.c3
  have d6 := n.c6
  have d15 := n.c15
  have dv := y.v
  have df := y.c
  have q1 := n.fr 1
  have q3 := n.fr 3
  have q6 := n.fr 6
  have q15' := n.fr 15
  have hyn' : nb ≠ yb := Ne.symm hyn
  have z1 : nb < w1.heap.size := World.block_lt_of_cell? w1 _ d1
  have z2 : yb < w1.heap.size := World.block_lt_of_cell? w1 _ dv
  have z3 : nb ≠ w1.heap.size := by omega
  have z4 : w1.heap.size ≠ nb := by omega
  have z5 : yb ≠ w1.heap.size := by omega
  have z6 : w1.heap.size ≠ yb := by omega
  have hpbn : IsPass (fnamed w1 nb val) pb := (PC.out.kept k1 (by simp)).kept (fnamed_kept w1 nb val) (by simp [hpn])
  have hpart := part_base (fnamed w1 nb val) pb hpbn
  have HPN := Lib.hid hpbn; clear hpbn
  have K1 := Lib.hid k1; clear k1
  have NN := Lib.hid n; clear n y
  clear ta c15c c6c lvc c15 c6 c0 q15
  go_wp2_with fail
  have m := NN.out.named (val := val) O2.out (by simp [Value.ownBlock])
  refine (base_Field_Id _ base _ pb nb xb HPN.out _ _ _ _ _ m.1).mono ?_
  rintro e w2 ⟨rfl, k2⟩
  have K2 := Lib.hid k2; clear k2
  have M := Lib.hid m; clear m
  go_wp2_with fail
  go_end0
  exact ⟨rfl, w1.heap.size, _, M.out.1.kept K2.out, K2.out.cell M.out.2 (by simp), (KC.out.trans (K1.out.mono (by simp))).trans ((fnamed_kept w1 nb val).trans (K2.out.mono (by simp)))⟩

end Go.Proofs.YtepipmjcfnncdaaFmt
