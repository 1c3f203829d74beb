/- The walk of the law FnArrayFixesNestedArrays: it returns true at every two flags and four slices of codes, and writes nothing that was there. -/
import Derived.Test.YtinaihfbakkcmaaFmtNest
import Derived.Test.YtinaihfbakkcmaaFmtFxI
namespace Go.Proofs.YtinaihfbakkcmaaFmt
open Go.ChangeShapes Go.WideShapes Go.ChangeAt Go.RowKit

theorem Nest.outer {w w' : World} {base no eo ni ei : Nat} {to ti : Bool} {vlo vco vli vci : Value} {llo lco lli lci : List FE} (h : Nest w base no eo ni ei to ti vlo vco vli vci llo lco lli lci) (hk : Kept (ei :: ni :: vli.ownBlock.toList) w w') :
    Two w' base ⟨eo, 1, none⟩ ⟨no, 11, none⟩ ⟨no, 1, none⟩ to vlo vco llo lco ∧ w'.cell? ⟨no, 0, none⟩ = some (.slice (some ⟨eo, 0, none⟩) 1 1) := by
  have hnot : ∀ g, g ≠ ei → g ≠ ni → vli.ownBlock ≠ some g → g ∉ ei :: ni :: vli.ownBlock.toList := fun g h1 h2 h3 hm => by
    simp at hm
    rcases hm with e | e | e
    · exact h1 e
    · exact h2 e
    · exact h3 e
  have nno := hnot no (Ne.symm h.d.2.2.1) (Ne.symm h.d.1) (fun e => (h.far2 no (Or.inl e)).1 rfl)
  have neo := hnot eo (Ne.symm h.d.2.2.2) (Ne.symm h.d.2.1) (fun e => (h.far2 eo (Or.inl e)).2 rfl)
  exact ⟨h.two.kept hk neo nno nno (fun g hg => hnot g (fun e => (h.far g (Or.inr (Or.inl e))).1 hg) (fun e => (h.far g (Or.inl e)).1 hg) (fun e => (h.far g (Or.inr (Or.inr (Or.inl e)))).1 hg))
    (fun g hg => hnot g (fun e => (h.far g (Or.inr (Or.inl e))).2 hg) (fun e => (h.far g (Or.inl e)).2 hg) (fun e => (h.far g (Or.inr (Or.inr (Or.inl e)))).2 hg)), hk.cell h.c0 nno⟩

def NestLeft (w : World) (base no eo ni ei : Nat) (to ti : Bool) (vlo vli : Value) (llo lco lli lci : List FE) (w' : World) : Prop :=
  ∃ llo' lco' vlo' vco' lli' lci' vli' vci', FxC to llo lco llo' lco' ∧ FxC ti lli lci lli' lci' ∧ Two w' base ⟨eo, 1, none⟩ ⟨no, 11, none⟩ ⟨no, 1, none⟩ (anyNL lco || anyNL llo) vlo' vco' llo' lco' ∧
    w'.cell? ⟨no, 0, none⟩ = some (.slice (some ⟨eo, 0, none⟩) 1 1) ∧ ArrN w' base ni ei 0 (anyNL lci || anyNL lli) vli' vci' lli' lci' (fun _ => []) ∧ Kept (eo :: no :: ei :: ni :: (vlo.ownBlock.toList ++ vli.ownBlock.toList)) w w'

set_option maxRecDepth 100000 in
set_option maxHeartbeats 4000000 in
theorem fix_Nest (w : World) (base pb no eo ni ei : Nat) (hpb : IsPass w pb) (ctx : Value) (to ti : Bool) (vlo vco vli vci : Value) (llo lco lli lci : List FE) (h : Nest w base no eo ni ei to ti vlo vco vli vci llo lco lli lci)
    (hpn : pb ≠ ni) (hpe : pb ≠ ei) (hp1 : vli.ownBlock ≠ some pb) (hpo : pb ≠ no) (hpeo : pb ≠ eo) (hp2 : vlo.ownBlock ≠ some pb) (hlen : lli.length + lci.length ≤ 1048570) (hlen2 : llo.length + lco.length ≤ 1048570) (hbs : base ≤ w.heap.size)
    (hcl : ∀ x, lci[0]? = some x → x.k = 0 → x.cl = 0) (hcl2 : ∀ x, lco[0]? = some x → x.k = 0 → x.cl = 0) :
    Calls Tryf.prog 28 #[.pointer (some ⟨pb, 0, none⟩), .iface 78 (.pointer (some ⟨pb, 0, none⟩)), .pointer (some ⟨no, 0, none⟩), ctx] w fun e w' => e = .returned (.tuple #[]) ∧
      NestLeft w base no eo ni ei to ti vlo vli llo lco lli lci w' := by
  have c0 := h.c0
  obtain ⟨m, hm⟩ : ∃ m : Nat, 0 = m := ⟨_, rfl⟩
  obtain ⟨n, hn⟩ : ∃ n : Nat, 1 = n := ⟨_, rfl⟩
  have hw : IntKind.i64.wrap ((n : Int) - 1) = (m : Int) := by rw [← hn, ← hm]; rfl
  have i1 : (0 : Int) ≤ (m : Int) := by omega
  have i2 : (m : Int) < (n : Int) := by omega
  have hz : ((n : Int) == 0) = false := by simp; omega
  rw [hn] at c0
  have HN1 := Lib.hid hn; clear hn
  have HM1 := Lib.hid hm; clear hm
  have H := Lib.hid h; clear h
  have HPB := Lib.hid hpb; clear hpb
  have HCL := Lib.hid hcl; clear hcl
  have HCL2 := Lib.hid hcl2; clear hcl2
  go_enter Tryf.func28, Tryf.ntmps28
  go_wp2_with fail
  go_still_tail 19, (by kernel_rfl)
  go_wp2_with fail
  obtain rfl := HM1.out
  have q : Kept [] w w.drew := (Kept.refl [] w).drew
  have hd := H.out.kept q
  refine (fixComma_any _ base _ eo 1 no 11 no 1 to vlo vco llo lco hd.two hlen2 (Nat.le_trans hbs q.size) HCL2.out).mono ?_
  rintro e w1 ⟨rfl, llo', lco', hfx, hl3⟩
  obtain ⟨vlo', vco', hn, hk⟩ := hd.left hl3
  have hpb1 : IsPass w1 pb := (HPB.out.kept q (by simp)).kept hk (by simp [hpo, hp2, hpeo])
  have hpart := part_base w1 pb hpb1
  have hk1 := (q.mono (T := eo :: no :: vlo.ownBlock.toList) (by simp)).then hk (fun x hx => Or.inl hx)
  have HK1 := Lib.hid hk1; clear hk1
  have HFX := Lib.hid hfx; clear hfx
  have HN := Lib.hid hn; clear hn
  clear hl3 hd hk q c0 hw hz i1 i2
  go_wp2_with fail
  refine (base_Nest _ base _ pb no eo ni ei hpb1 _ _ ti vlo' vco' vli vci llo' lco' lli lci HN.out hpn hpe hp1 hlen (Nat.le_trans hbs HK1.out.size) HCL.out).mono ?_
  rintro e w2 ⟨rfl, hA⟩
  have HA := Lib.hid hA; clear hA
  go_wp2_with fail
  go_end0
  obtain ⟨lli', lci', vli', vci', e1, e2, e3, -⟩ := HA.out
  obtain ⟨t2, t3⟩ := HN.out.outer e3
  refine ⟨rfl, llo', lco', vlo', vco', lli', lci', vli', vci', HFX.out, e1, t2, t3, e2, ?_⟩
  exact (HK1.out.mono (fun k hk => Or.inl (by simp at hk ⊢; rcases hk with e | e | e <;> simp [e]))).trans (e3.mono (fun k hk => Or.inl (by simp at hk ⊢; rcases hk with e | e | e <;> simp [e])))

set_option maxRecDepth 100000 in
set_option maxHeartbeats 4000000 in
theorem zzNest (w : World) (base no eo ni ei : Nat) (to ti : Bool) (vlo vco vli vci : Value) (llo lco lli lci : List FE) (h : Nest w base no eo ni ei to ti vlo vco vli vci llo lco lli lci)
    (hlen : lli.length + lci.length ≤ 1048570) (hlen2 : llo.length + lco.length ≤ 1048570) (hbs : base ≤ w.heap.size) (hcl : ∀ x, lci[0]? = some x → x.k = 0 → x.cl = 0) (hcl2 : ∀ x, lco[0]? = some x → x.k = 0 → x.cl = 0) :
    Calls Tryf.prog 14 #[.pointer (some ⟨no, 0, none⟩)] w fun e w' => e = .returned (.tuple #[]) ∧ NestLeft w base no eo ni ei to ti vlo vli llo lco lli lci w' := by
  have H := Lib.hid h; clear h
  have HCL := Lib.hid hcl; clear hcl
  have HCL2 := Lib.hid hcl2; clear hcl2
  go_enter Tryf.func14, Tryf.ntmps14
  go_wp2_with fail
  have ka : Kept [] w (w.alloc (.cells #[] 82)) := (Kept.refl [] w).alloc _
  have hpb : IsPass (w.alloc (.cells #[] 82)) w.heap.size := heap_alloc_new w _
  have h1 := World.block_lt_of_cell? w _ H.out.c0
  have h2 := World.block_lt_of_cell? w _ H.out.cx
  have h3 := World.block_lt_of_cell? w _ H.out.f2
  have h4 := World.block_lt_of_cell? w _ H.out.inn.two.cp
  dsimp only at h1 h2 h3 h4
  have h5 : vlo.ownBlock ≠ some w.heap.size := fun e => by have := (World.ownsRow.lt H.out.two.l _ e).2; omega
  have h6 : vli.ownBlock ≠ some w.heap.size := fun e => by have := (World.ownsRow.lt H.out.inn.two.l _ e).2; omega
  refine (fix_Nest _ base w.heap.size no eo ni ei hpb _ to ti vlo vco vli vci llo lco lli lci (H.out.kept ka) (by omega) (by omega) h6 (by omega) (by omega) h5 hlen hlen2 (Nat.le_trans hbs ka.size) HCL.out HCL2.out).mono ?_
  rintro e w1 ⟨rfl, hA⟩
  have HA := Lib.hid hA; clear hA
  go_wp2_with fail
  go_end0
  obtain ⟨x1, x2, x3, x4, x5, x6, x7, x8, e1, e2, e3, e4, e5, e6⟩ := HA.out
  exact ⟨rfl, x1, x2, x3, x4, x5, x6, x7, x8, e1, e2, e3, e4, e5, (ka.mono (by simp)).then e6 (fun x hx => Or.inl hx)⟩
end Go.Proofs.YtinaihfbakkcmaaFmt
