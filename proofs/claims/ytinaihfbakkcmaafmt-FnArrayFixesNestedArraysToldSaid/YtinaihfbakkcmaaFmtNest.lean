/- The contract of FixTrailingCommas.Array at an array whose one element is an array of one null literal. -/
import Derived.Test.YtinaihfbakkcmaaFmtVisA
namespace Go.Proofs.YtinaihfbakkcmaaFmt
open Go.ChangeShapes Go.WideShapes Go.ChangeAt Go.RowKit

/-- At no lies an array, its one element at eo; that element is the array at ni, its element at ei. -/
structure Nest (w : World) (base no eo ni ei : Nat) (to ti : Bool) (vlo vco vli vci : Value) (llo lco lli lci : List FE) : Prop where
  two : Two w base ⟨eo, 1, none⟩ ⟨no, 11, none⟩ ⟨no, 1, none⟩ to vlo vco llo lco
  c0 : w.cell? ⟨no, 0, none⟩ = some (.slice (some ⟨eo, 0, none⟩) 1 1)
  cx : w.cell? ⟨eo, 0, none⟩ = some (.iface 53 (.pointer (some ⟨ni, 0, none⟩)))
  inn : ArrN w base ni ei 0 ti vli vci lli lci (fun _ => [])
  f2 : w.cell? ⟨ni, 2, none⟩ = some (.slice none 0 0)
  ff : w.frozen? ⟨ni, 2, none⟩ = false
  ne : eo ≠ no
  d : ni ≠ no ∧ ni ≠ eo ∧ ei ≠ no ∧ ei ≠ eo
  far : ∀ g, (g = ni ∨ g = ei ∨ vli.ownBlock = some g ∨ vci.ownBlock = some g) → vlo.ownBlock ≠ some g ∧ vco.ownBlock ≠ some g
  far2 : ∀ g, (vli.ownBlock = some g ∨ vci.ownBlock = some g) → g ≠ no ∧ g ≠ eo
  leaf : ∀ xb, w.cell? ⟨ei, 0, none⟩ = some (.iface 27 (.pointer (some ⟨xb, 0, none⟩))) → xb ≠ no ∧ xb ≠ eo ∧ vlo.ownBlock ≠ some xb ∧ vco.ownBlock ≠ some xb

theorem ArrN.farKept {w w' : World} {base nb eb : Nat} {tc : Bool} {vl vc : Value} {ll lc : List FE} {C : Nat → List FE} {S : List Nat} (h : ArrN w base nb eb 0 tc vl vc ll lc C) (hk : Kept S w w') (hn : nb ∉ S) (he : eb ∉ S)
    (hl : ∀ g, vl.ownBlock = some g → g ∉ S) (hc : ∀ g, vc.ownBlock = some g → g ∉ S) (hx : ∀ xb, w.cell? ⟨eb, 0, none⟩ = some (.iface 27 (.pointer (some ⟨xb, 0, none⟩))) → xb ∉ S) : ArrN w' base nb eb 0 tc vl vc ll lc C where
  two := h.two.kept hk he hn hn hl hc
  c0 := hk.cell h.c0 hn
  ne := h.ne
  el := fun i hi => by
    obtain rfl : i = 0 := by omega
    obtain ⟨xb, e1, e2, e3, e4⟩ := h.el 0 (Nat.le_refl _)
    have nx := hx xb (by simpa using e1)
    exact ⟨xb, hk.cell e1 he, hk.cell e2 nx, (hk.frozen (World.block_lt_of_cell? w _ e2) nx).trans e3, e4⟩
  cm := fun i hi => by omega

theorem Nest.kept {w w' : World} {base no eo ni ei : Nat} {to ti : Bool} {vlo vco vli vci : Value} {llo lco lli lci : List FE} (h : Nest w base no eo ni ei to ti vlo vco vli vci llo lco lli lci) (q : Kept [] w w') :
    Nest w' base no eo ni ei to ti vlo vco vli vci llo lco lli lci where
  two := h.two.kept0 q
  c0 := q.cell h.c0 (by simp)
  cx := q.cell h.cx (by simp)
  inn := h.inn.kept q (by simp)
  f2 := q.cell h.f2 (by simp)
  ff := (q.frozen (World.block_lt_of_cell? w _ h.f2) (by simp)).trans h.ff
  ne := h.ne
  d := h.d
  far := h.far
  far2 := h.far2
  leaf := fun xb hx => by
    obtain ⟨yb, e1, -⟩ := h.inn.el 0 (Nat.le_refl _)
    have e := q.cell e1 (by simp)
    rw [Nat.zero_mul] at e e1
    have : xb = yb := by rw [hx] at e; simpa using e
    subst this
    exact h.leaf _ e1

/-- What fixComma leaves of it at the outer array. -/
theorem Nest.left {w w' : World} {base no eo ni ei : Nat} {to ti b : Bool} {vlo vco vli vci : Value} {llo lco lli lci llo' lco' : List FE} (h : Nest w base no eo ni ei to ti vlo vco vli vci llo lco lli lci)
    (hl : Left3 w base ⟨eo, 1, none⟩ ⟨no, 11, none⟩ ⟨no, 1, none⟩ vlo vco b llo' lco' w') :
    ∃ vlo' vco', Nest w' base no eo ni ei b ti vlo' vco' vli vci llo' lco' lli lci ∧ Kept (eo :: no :: vlo.ownBlock.toList) w w' := by
  obtain ⟨vl', vc', ht, hk, hr, ho1, ho2⟩ := hl
  dsimp only at hk
  have ne := h.ne
  have hk2 : Kept (eo :: no :: vlo.ownBlock.toList) w w' := hk.mono (fun k hk => Or.inl (by simp at hk ⊢; rcases hk with e | e | e <;> simp [e]))
  have Rn : ∀ o v, o ≠ 11 → o ≠ 1 → w.cell? ⟨no, o, none⟩ = some v → w'.cell? ⟨no, o, none⟩ = some v := fun o v n1 n2 hc =>
    (hr.1 ⟨no, o, none⟩ (Or.inr (Or.inl rfl)) (fun e => ne (congrArg Addr.block e).symm) (fun e => n1 (congrArg Addr.off e)) (fun e => n2 (congrArg Addr.off e))).trans hc
  have Re : ∀ o v, o ≠ 1 → w.cell? ⟨eo, o, none⟩ = some v → w'.cell? ⟨eo, o, none⟩ = some v := fun o v n1 hc =>
    (hr.1 ⟨eo, o, none⟩ (Or.inl rfl) (fun e => n1 (congrArg Addr.off e)) (fun e => ne (congrArg Addr.block e)) (fun e => ne (congrArg Addr.block e))).trans hc
  have far : ∀ g, g < w.heap.size → vlo.ownBlock ≠ some g → vco.ownBlock ≠ some g → vl'.ownBlock ≠ some g ∧ vc'.ownBlock ≠ some g := fun g hg h1 h2 =>
    ⟨fun e => by rcases ho1 g e with e | e; exact h1 e; omega, fun e => by rcases ho2 g e with e | e | e; exact h1 e; exact h2 e; omega⟩
  have notin : ∀ g, g ≠ no → g ≠ eo → vlo.ownBlock ≠ some g → g ∉ eo :: no :: vlo.ownBlock.toList := fun g hn he h1 hm => by
    simp at hm
    rcases hm with e | e | e
    · exact he e
    · exact hn e
    · exact h1 e
  have li := World.block_lt_of_cell? w _ h.f2
  have le := World.block_lt_of_cell? w _ h.inn.two.cp
  have hni := notin ni h.d.1 h.d.2.1 (h.far ni (Or.inl rfl)).1
  have hei := notin ei h.d.2.2.1 h.d.2.2.2 (h.far ei (Or.inr (Or.inl rfl))).1
  have hvl : ∀ g, vli.ownBlock = some g → g ∉ eo :: no :: vlo.ownBlock.toList := fun g hg => notin g (h.far2 g (Or.inl hg)).1 (h.far2 g (Or.inl hg)).2 (h.far g (Or.inr (Or.inr (Or.inl hg)))).1
  have hvc : ∀ g, vci.ownBlock = some g → g ∉ eo :: no :: vlo.ownBlock.toList := fun g hg => notin g (h.far2 g (Or.inr hg)).1 (h.far2 g (Or.inr hg)).2 (h.far g (Or.inr (Or.inr (Or.inr hg)))).1
  have hxb := fun xb hx => notin xb (h.leaf xb hx).1 (h.leaf xb hx).2.1 (h.leaf xb hx).2.2.1
  refine ⟨vl', vc', ?_, hk2⟩
  exact {
    two := ht
    c0 := Rn 0 _ (by omega) (by omega) h.c0
    cx := Re 0 _ (by omega) h.cx
    inn := h.inn.farKept hk2 hni hei hvl hvc hxb
    f2 := hk2.cell h.f2 hni
    ff := (hk2.frozen li hni).trans h.ff
    ne := ne
    d := h.d
    far := fun g hg => by
      have f := h.far g hg
      have hlt : g < w.heap.size := by
        rcases hg with rfl | rfl | e | e
        · exact li
        · exact le
        · exact (World.ownsRow.lt h.inn.two.l g e).2
        · exact (World.ownsRow.lt h.inn.two.c g e).2
      exact far g hlt f.1 f.2
    far2 := h.far2
    leaf := fun xb hx => by
      obtain ⟨yb, e1, e2, -⟩ := h.inn.el 0 (Nat.le_refl _)
      rw [Nat.zero_mul] at e1
      have e := hk2.cell e1 hei
      have : xb = yb := by rw [hx] at e; simpa using e
      subst this
      have f := h.leaf _ e1
      have g := far xb (World.block_lt_of_cell? w _ e2) f.2.2.1 f.2.2.2
      exact ⟨f.1, f.2.1, g.1, g.2⟩ }

set_option maxRecDepth 100000 in
set_option maxHeartbeats 4000000 in
theorem base_Nest (w : World) (base : Nat) (r : Value) (pb no eo ni ei : Nat) (hpb : IsPass w pb) (ctx : Value) (to ti : Bool) (vlo vco vli vci : Value) (llo lco lli lci : List FE) (h : Nest w base no eo ni ei to ti vlo vco vli vci llo lco lli lci)
    (hpn : pb ≠ ni) (hpe : pb ≠ ei) (hp1 : vli.ownBlock ≠ some pb) (hlen : lli.length + lci.length ≤ 1048570) (hbs : base ≤ w.heap.size) (hcl : ∀ x, lci[0]? = some x → x.k = 0 → x.cl = 0) :
    Calls Tryf.prog 33 #[r, .iface 78 (.pointer (some ⟨pb, 0, none⟩)), .pointer (some ⟨no, 0, none⟩), ctx] w fun e w' => e = .returned (.tuple #[]) ∧ ArrLeft w base ni ei 0 ti vli vci lli lci (fun _ => []) w' := by
  have c0 := h.c0
  have HPB := Lib.hid hpb; clear hpb
  have H := Lib.hid h; clear h
  have HCL := Lib.hid hcl; clear hcl
  have hn1 := nilA_Fodder pb
  have hn2 := nilA_Visit pb
  have hm := meth_Visit pb w.drew (HPB.out.kept (Kept.refl [] w).drew (by simp))
  go_enter Tryf.func33, Tryf.ntmps33
  go_wp2_with fail
  refine wp_loop_rounds 2 ?_
  rw [rounds_succ]
  go_wp2_with fail
  go_still_tail 13, (by kernel_rfl)
  go_wp2_with fail
  have q : Kept [] w w.drew := (Kept.refl [] w).drew
  have hq := H.out.kept q
  refine (visit_Array _ base _ pb eo 0 ni ei 0 _ ti vli vci lli lci _ hq.inn (by omega) (HPB.out.kept q (by simp)) hpn hpe hp1 hq.cx hq.f2 hq.ff hlen (Nat.le_trans hbs q.size) HCL.out).mono ?_
  rintro e w1 ⟨rfl, hA⟩
  have hA := hA.below q
  have hk1 : Kept (ei :: ni :: vli.ownBlock.toList) w w1 := by
    obtain ⟨_, _, _, _, _, _, h3, _⟩ := hA
    exact h3
  have hnot : ∀ g, g ≠ ei → g ≠ ni → vli.ownBlock ≠ some g → g ∉ ei :: ni :: vli.ownBlock.toList := fun g h1 h2 h3 hm => by
    simp at hm
    rcases hm with e | e | e
    · exact h1 e
    · exact h2 e
    · exact h3 e
  have nno := hnot no (Ne.symm H.out.d.2.2.1) (Ne.symm H.out.d.1) (fun e => (H.out.far2 no (Or.inl e)).1 rfl)
  have neo := hnot eo (Ne.symm H.out.d.2.2.2) (Ne.symm H.out.d.2.1) (fun e => (H.out.far2 eo (Or.inl e)).2 rfl)
  have npb := hnot pb hpe hpn hp1
  have hvlo : ∀ g, vlo.ownBlock = some g → g ∉ ei :: ni :: vli.ownBlock.toList := fun g hg => hnot g (fun e => (H.out.far g (Or.inr (Or.inl e))).1 hg) (fun e => (H.out.far g (Or.inl e)).1 hg) (fun e => (H.out.far g (Or.inr (Or.inr (Or.inl e)))).1 hg)
  have hvco : ∀ g, vco.ownBlock = some g → g ∉ ei :: ni :: vli.ownBlock.toList := fun g hg => hnot g (fun e => (H.out.far g (Or.inr (Or.inl e))).2 hg) (fun e => (H.out.far g (Or.inl e)).2 hg) (fun e => (H.out.far g (Or.inr (Or.inr (Or.inl e)))).2 hg)
  have p1 := HPB.out.kept hk1 npb
  have c01 := hk1.cell c0 nno
  have t1 := H.out.two.kept hk1 neo nno nno hvlo hvco
  have HA := Lib.hid hA; clear hA
  have P1 := Lib.hid p1; clear p1
  have T1 := Lib.hid t1; clear t1
  clear hvlo hvco npb neo nno hnot hk1 hq q c0 hm
  have hm1 := meth_Fodder pb w1.drew (P1.out.kept (Kept.refl [] w1).drew (by simp))
  go_wp2_with fail
  go_still_tail 13, (by kernel_rfl)
  go_wp2_with fail
  have q : Kept [] w1 w1.drew := (Kept.refl [] w1).drew
  refine (passFodder _ base _ pb eo 1 (P1.out.kept q (by simp)) _ vlo llo (T1.out.l.kept q (by simp)) (q.cell T1.out.cp (by simp))).mono ?_
  rintro e w2 ⟨rfl, k2⟩
  have Q2 := Lib.hid (q.trans k2); clear q k2 hm1
  go_wp2_with fail
  rw [rounds_succ]
  have hm2 := meth_Fodder pb w2.drew (P1.out.kept Q2.out.drew (by simp))
  go_wp2_with fail
  go_still_tail 9, (by kernel_rfl)
  go_wp2_with fail
  have q := Q2.out.drew
  refine (passFodder _ base _ pb no 1 (P1.out.kept q (by simp)) _ vco lco (T1.out.c.kept q (by simp)) (q.cell T1.out.cq (by simp))).mono ?_
  rintro e w3 ⟨rfl, k3⟩
  have Q3 := Lib.hid (q.trans k3); clear q k3 hm2
  go_wp2_with fail
  go_end0
  exact ⟨rfl, HA.out.after Q3.out⟩
end Go.Proofs.YtinaihfbakkcmaaFmt
