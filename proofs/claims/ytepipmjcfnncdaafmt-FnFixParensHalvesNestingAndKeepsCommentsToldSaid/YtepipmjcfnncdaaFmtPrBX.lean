/- The contract of FixParens.Parens at a nest of parentheses whose fodders are comments within a line. -/
import Derived.Test.YtepipmjcfnncdaaFmtPrAX
namespace Go.Proofs.YtepipmjcfnncdaaFmt
open Go.ChangeShapes Go.WideShapes Go.ChangeAt Go.RowKit

/-- Two by two the pairs become one. -/
def half : List (List FE × List FE) → List (List FE × List FE)
  | [] => []
  | [a] => [a]
  | a :: b :: r => (b.1 ++ a.1, b.2 ++ a.2) :: half r
def Lv.pr (L : Lv) : List FE × List FE := (L.lo, L.lc)

/-- What the call leaves of a nest. -/
def Halved (w : World) (base x : Nat) (lv : List Lv) (w' : World) : Prop :=
  ∃ lv', Nst w' base x lv' ∧ nodeOf x lv' = nodeOf x lv ∧ lv'.map Lv.pr = half (lv.map Lv.pr) ∧ Kept (blocks lv) w w' ∧ ∀ b ∈ blocks lv', b ∈ blocks lv ∨ w.heap.size ≤ b

theorem Halved.before {w0 w w' : World} {base x : Nat} {lv : List Lv} (h : Halved w base x lv w') (q : Kept [] w0 w) : Halved w0 base x lv w' := by
  obtain ⟨lv', h1, h2, h3, h4, h5⟩ := h
  exact ⟨lv', h1, h2, h3, (q.mono (by simp)).trans h4, fun b hb => by rcases h5 b hb with e | e; exact Or.inl e; exact Or.inr (Nat.le_trans q.size e)⟩
theorem Halved.after {w w' w'' : World} {base x : Nat} {lv : List Lv} (h : Halved w base x lv w') (q : Kept [] w' w'') : Halved w base x lv w'' := by
  obtain ⟨lv', h1, h2, h3, h4, h5⟩ := h
  exact ⟨lv', h1.kept q (by simp), h2, h3, h4.trans (q.mono (by simp)), h5⟩
theorem Halved.nil {w w' : World} {base x : Nat} (q : Kept [] w w') : Halved w base x [] w' := ⟨[], trivial, rfl, rfl, q.mono (by simp [blocks]), fun b hb => by simp [blocks] at hb⟩

/-- Every element is a comment within a line, and not too many. -/
def Short (l : List FE) : Prop := (∀ e ∈ l, e.k = 1) ∧ l.length ≤ 500000
def Shorts (lv : List Lv) : Prop := ∀ L ∈ lv, Short L.lo ∧ Short L.lc

theorem conc_short {a b l : List FE} (h : Short b) (hc : Conc a b l) : l = a ++ b := by
  rcases hc with ⟨rfl, rfl⟩ | ⟨rfl, rfl⟩ | ⟨x, t, m, h0, rfl, hs, rfl⟩
  · rfl
  · simp
  · have hx : x.k = 1 := h.1 x (by simp)
    rcases hs with ⟨_, hk, _⟩ | ⟨_, hk, _⟩ | ⟨_, _, rfl⟩
    · rw [hx] at hk; cases hk
    · rw [hx] at hk; cases hk
    · simp

/-- The visit of what lies inside. -/
theorem visit_in (n : Nat) (IH : ∀ (lv : List Lv), lv.length ≤ n → ∀ (w : World) (L : Lv) (r : List Lv), lv = L :: r → ∀ (base x pb : Nat) (ctx : Value) (ve : Value) (le : List FE), Nst w base x lv → Shorts lv → (blocks lv).Nodup → VarAt w base x ve le → x ∉ blocks lv → (∀ g, ve.ownBlock = some g → g ∉ blocks lv) →
      IsPass w pb → pb ∉ blocks lv → base ≤ w.heap.size →
      Calls Tryf.prog 80 #[.pointer (some ⟨pb, 0, none⟩), .iface 183 (.pointer (some ⟨pb, 0, none⟩)), .pointer (some ⟨L.q, 0, none⟩), ctx] w fun e w' => e = .returned (.tuple #[]) ∧ Halved w base x lv w')
    (lv : List Lv) (hn : lv.length ≤ n) (w : World) (base x pb nb no : Nat) (r ctx ve : Value) (le : List FE) (h : Nst w base x lv) (hs : Shorts lv) (hd : (blocks lv).Nodup) (hv : VarAt w base x ve le) (hx : x ∉ blocks lv) (ho : ∀ g, ve.ownBlock = some g → g ∉ blocks lv)
    (hp : IsPass w pb) (hpl : pb ∉ blocks lv) (hb : base ≤ w.heap.size) (hc : w.cell? ⟨nb, no, none⟩ = some (nodeOf x lv)) :
    Calls Tryf.prog 72 #[r, .iface 183 (.pointer (some ⟨pb, 0, none⟩)), .pointer (some ⟨nb, no, none⟩), ctx] w fun e w' => e = .returned (.tuple #[]) ∧ Halved w base x lv w' := by
  cases lv with
  | nil =>
    refine (visit_Var w base r pb nb no x hp ctx ve le hv.h hc hv.c hv.f).mono ?_
    rintro e w' ⟨rfl, k⟩
    exact ⟨rfl, Halved.nil k⟩
  | cons L t =>
    obtain ⟨h0, h1, h2, h3, h4, h5, h6⟩ := h
    refine visit_Par w base r pb nb no L.q ctx L.vo L.lo (Halved w base x (L :: t)) hp h4 hc h2 (h3 2) (fun wx q => ?_)
    refine (IH (L :: t) hn wx L t rfl base x pb ctx ve le (Nst.kept (lv := L :: t) ⟨h0, h1, h2, h3, h4, h5, h6⟩ q (by simp)) hs hd (hv.kept q (by simp) (by simp)) hx ho (hp.kept q (by simp)) hpl (Nat.le_trans hb q.size)).mono ?_
    rintro e w' ⟨rfl, hh⟩
    exact ⟨rfl, hh.before q⟩

set_option maxRecDepth 100000 in
set_option maxHeartbeats 8000000 in
/-- A lone pair. -/
theorem fix_one (w : World) (L : Lv) (base x pb : Nat) (ctx ve : Value) (le : List FE) (h : Nst w base x [L]) (hv : VarAt w base x ve le) (hp : IsPass w pb) :
    Calls Tryf.prog 80 #[.pointer (some ⟨pb, 0, none⟩), .iface 183 (.pointer (some ⟨pb, 0, none⟩)), .pointer (some ⟨L.q, 0, none⟩), ctx] w fun e w' => e = .returned (.tuple #[]) ∧ Halved w base x [L] w' := by
  have c0 : w.cell? ⟨L.q, 0, none⟩ = some (varI x) := h.1
  have H := Lib.hid h; clear h
  have HV := Lib.hid hv; clear hv
  have hpart := part_base w pb hp
  have HP := Lib.hid hp; clear hp
  have ta := fun w : World => ta_no_Parens 58 (.pointer (some ⟨x, 0, none⟩)) 31 w (by decide)
  obtain ⟨Lq, hq⟩ : ∃ q, L.q = q := ⟨_, rfl⟩
  rw [hq] at c0 ⊢
  have HQ := Lib.hid hq; clear hq
  go_enter Tryf.func80, Tryf.ntmps80
  go_wp2_with fail
  refine (base_Par w base pb Lq ctx _ (fun w' => Kept [] w w') HP.out (fun wx q => ?_) (fun w' k => ⟨HP.out.kept k (by simp), L.vc, L.lc, ?_, H.out.2.2.2.2.2.1.kept k (by simp)⟩)).mono ?_
  · have v := HV.out.kept q (by simp) (by simp)
    refine (visit_Var wx base _ pb Lq 0 x (HP.out.kept q (by simp)) ctx ve le v.h (q.cell c0 (by simp)) v.c v.f).mono ?_
    rintro e w' ⟨rfl, k⟩
    exact ⟨rfl, q.trans k⟩
  · rw [← HQ.out]
    exact k.cell H.out.2.1 (by simp)
  · rintro e w2 ⟨rfl, w1, k1, k2⟩
    have K := Lib.hid (k1.trans k2); clear k1 k2
    go_wp2_with fail
    go_end0
    exact ⟨rfl, [L], H.out.kept K.out (by simp), rfl, rfl, K.out.mono (by simp), fun b hb => Or.inl hb⟩

/-- What the two moves leave: the outer pair holds both fodders, the rest of the nest is as it was. -/
def Joined (w : World) (base x : Nat) (L b : Lv) (r : List Lv) (w' : World) : Prop :=
  ∃ L' : Lv, L'.q = L.q ∧ L'.lo = b.lo ++ L.lo ∧ L'.lc = b.lc ++ L.lc ∧ w'.cell? ⟨L.q, 0, none⟩ = some (nodeOf x r) ∧ w'.cell? ⟨L.q, 1, none⟩ = some L'.vc ∧ w'.cell? ⟨L.q, 2, none⟩ = some L'.vo ∧ (∀ o, w'.frozen? ⟨L.q, o, none⟩ = false) ∧
    Fod w' base L'.vo L'.lo ∧ Fod w' base L'.vc L'.lc ∧ Nst w' base x r ∧ Kept (L.blocks ++ b.blocks) w w' ∧ (∀ g ∈ L'.blocks, g ∈ L.blocks ∨ g ∈ b.blocks ∨ w.heap.size ≤ g)

theorem joined_far {w : World} {base x : Nat} {L b : Lv} {r : List Lv} (hr : Nst w base x r) (LR : ∀ g ∈ L.blocks, g ∉ blocks r) (BR : ∀ g ∈ b.blocks, g ∉ blocks r) {L' : Lv} (h : ∀ g ∈ L'.blocks, g ∈ L.blocks ∨ g ∈ b.blocks ∨ w.heap.size ≤ g) :
    ∀ g ∈ L'.blocks, g ∉ blocks r := by
  intro g hg hm
  rcases h g hg with e | e | e
  · exact LR g e hm
  · exact BR g e hm
  · have := hr.lt g hm; omega

theorem joined_rest {w w2 : World} {base x : Nat} {L b : Lv} {r : List Lv} (hr : Nst w base x r) (LR : ∀ g ∈ L.blocks, g ∉ blocks r) (BR : ∀ g ∈ b.blocks, g ∉ blocks r) (hj : Joined w base x L b r w2) :
    ∀ w', Halved w2 base x r w' → ∃ L' : Lv, w'.cell? ⟨L.q, 1, none⟩ = some L'.vc ∧ Fod w' base L'.vc L'.lc := by
  intro w' hh
  obtain ⟨L', j1, j2, j3, j4, j5, j6, j7, j8, j9, j10, j11, j12⟩ := hj
  obtain ⟨r', r1, r2, r3, r4, r5⟩ := hh
  have far := joined_far hr LR BR j12
  exact ⟨L', r4.cell j5 (LR _ L.mq), j9.kept r4 (fun g hg => far g (Lv.mc hg))⟩

theorem joined_halved {w w2 w' : World} {base x : Nat} {L b : Lv} {r : List Lv} (hr : Nst w base x r) (LR : ∀ g ∈ L.blocks, g ∉ blocks r) (BR : ∀ g ∈ b.blocks, g ∉ blocks r) (hj : Joined w base x L b r w2) (hh : Halved w2 base x r w') : Halved w base x (L :: b :: r) w' := by
  obtain ⟨L', j1, j2, j3, j4, j5, j6, j7, j8, j9, j10, j11, j12⟩ := hj
  obtain ⟨r', r1, r2, r3, r4, r5⟩ := hh
  have far := joined_far hr LR BR j12
  have nq := LR _ L.mq
  have lq := World.block_lt_of_cell? w2 _ j4
  refine ⟨L' :: r', ⟨?_, ?_, ?_, fun o => ?_, j8.kept r4 (fun g hg => far g (Lv.mo hg)), j9.kept r4 (fun g hg => far g (Lv.mc hg)), r1⟩, by simp [nodeOf, j1], ?_, ?_, fun g hg => ?_⟩
  · rw [j1, r2]; exact r4.cell j4 nq
  · rw [j1]; exact r4.cell j5 nq
  · rw [j1]; exact r4.cell j6 nq
  · rw [j1]; exact (r4.frozen (p := ⟨L.q, o, none⟩) lq nq).trans (j7 o)
  · simp only [List.map_cons, half, Lv.pr, r3, j2, j3]
  · refine (j11.mono (fun g hg => Or.inl ?_)).trans (r4.mono (fun g hg => Or.inl ?_))
    · simp only [blocks]
      rcases List.mem_append.1 hg with h | h
      · exact List.mem_append_left _ h
      · exact List.mem_append_right _ (List.mem_append_left _ h)
    · simp only [blocks]
      exact List.mem_append_right _ (List.mem_append_right _ hg)
  · simp only [blocks] at hg ⊢
    rcases List.mem_append.1 hg with h | h
    · rcases j12 g h with e | e | e
      · exact Or.inl (List.mem_append_left _ e)
      · exact Or.inl (List.mem_append_right _ (List.mem_append_left _ e))
      · exact Or.inr e
    · rcases r5 g h with e | e
      · exact Or.inl (List.mem_append_right _ (List.mem_append_right _ e))
      · exact Or.inr (Nat.le_trans j11.size e)

theorem openFP_still (w : World) (q : Nat) : Calls Tryf.prog 90 #[parI q] w fun e w' => e = .returned (.pointer (some ⟨q, 2, none⟩)) ∧ w' = w :=
  (openF_Parens w q).mono fun _ _ h => ⟨h.1, h.2.symm⟩

set_option maxRecDepth 100000 in
set_option maxHeartbeats 8000000 in
theorem fixPar (n : Nat) : ∀ (lv : List Lv), lv.length ≤ n → ∀ (w : World) (L : Lv) (r : List Lv), lv = L :: r → ∀ (base x pb : Nat) (ctx : Value) (ve : Value) (le : List FE), Nst w base x lv → Shorts lv → (blocks lv).Nodup → VarAt w base x ve le → x ∉ blocks lv → (∀ g, ve.ownBlock = some g → g ∉ blocks lv) →
      IsPass w pb → pb ∉ blocks lv → base ≤ w.heap.size →
      Calls Tryf.prog 80 #[.pointer (some ⟨pb, 0, none⟩), .iface 183 (.pointer (some ⟨pb, 0, none⟩)), .pointer (some ⟨L.q, 0, none⟩), ctx] w fun e w' => e = .returned (.tuple #[]) ∧ Halved w base x lv w' := by
  induction n with
  | zero =>
    intro lv hn w L r e
    subst e
    simp at hn
  | succ n ih =>
    intro lv hn w L r e base x pb ctx ve le h hs hd hv hx ho hp hpl hb
    subst e
    cases r with
    | nil => exact fix_one w L base x pb ctx ve le h hv hp
    | cons b r =>
      have hn2 : r.length ≤ n := by simp at hn; omega
      obtain ⟨a0, a1, a2, a3, a4, a5, b0, b1, b2, b3, b4, b5, hr⟩ := h
      simp only [nodeOf] at a0
      -- the blocks are apart
      have hd2 := List.nodup_append.1 (show (L.blocks ++ (b.blocks ++ blocks r)).Nodup from hd)
      obtain ⟨dL, dbr, dLx⟩ := hd2
      obtain ⟨db, dr, dbx⟩ := List.nodup_append.1 dbr
      have LB : ∀ g ∈ L.blocks, g ∉ b.blocks := fun g h1 h2 => dLx g h1 g (List.mem_append_left _ h2) rfl
      have LR : ∀ g ∈ L.blocks, g ∉ blocks r := fun g h1 h2 => dLx g h1 g (List.mem_append_right _ h2) rfl
      have BR : ∀ g ∈ b.blocks, g ∉ blocks r := fun g h1 h2 => dbx g h1 g h2 rfl
      have inL : (∀ g, L.vo.ownBlock = some g → g ≠ L.q ∧ L.vc.ownBlock ≠ some g) ∧ (∀ g, L.vc.ownBlock = some g → g ≠ L.q) := by
        have d := dL
        unfold Lv.blocks at d
        rw [List.nodup_cons, List.nodup_append] at d
        refine ⟨fun g hg => ⟨fun e => d.1 (by simp [← e, hg]), fun e => d.2.2.2 g (by simp [hg]) g (by simp [e]) rfl⟩, fun g hg e => d.1 (by simp [← e, hg])⟩
      have inB : (∀ g, b.vo.ownBlock = some g → g ≠ b.q ∧ b.vc.ownBlock ≠ some g) ∧ (∀ g, b.vc.ownBlock = some g → g ≠ b.q) := by
        have d := db
        unfold Lv.blocks at d
        rw [List.nodup_cons, List.nodup_append] at d
        refine ⟨fun g hg => ⟨fun e => d.1 (by simp [← e, hg]), fun e => d.2.2.2 g (by simp [hg]) g (by simp [e]) rfl⟩, fun g hg e => d.1 (by simp [← e, hg])⟩
      have qne : L.q ≠ b.q := fun e => LB L.q L.mq (e ▸ b.mq)
      have hsL := hs L (by simp)
      have hsb := hs b (by simp)
      have hxs : x ∉ L.blocks ∧ x ∉ b.blocks ∧ x ∉ blocks r := by simp [blocks] at hx; exact hx
      have hos : ∀ g, ve.ownBlock = some g → g ∉ L.blocks ∧ g ∉ b.blocks ∧ g ∉ blocks r := fun g hg => by have := ho g hg; simp [blocks] at this; exact this
      have hps : pb ∉ L.blocks ∧ pb ∉ b.blocks ∧ pb ∉ blocks r := by simp [blocks] at hpl; exact hpl
      have Lq : L.q < w.heap.size := World.block_lt_of_cell? w _ a0
      have bq : b.q < w.heap.size := World.block_lt_of_cell? w _ b0
      -- the world in which the inner pair has been passed by
      obtain ⟨wa, hwa⟩ : ∃ wa, w.setCell ⟨L.q, 0, none⟩ (nodeOf x r) = wa := ⟨_, rfl⟩
      have ka : Kept [L.q] w wa := hwa ▸ (Kept.refl [L.q] w).setCell (p := ⟨L.q, 0, none⟩) (Or.inl (by simp)) _
      have nL : ∀ g, g ≠ L.q → g ∉ [L.q] := fun g hg => by simp [hg]
      have fL : ∀ o, wa.frozen? ⟨L.q, o, none⟩ = false := fun o => by rw [← hwa, World.frozen?_setCell]; exact a3 o
      have z0 : wa.cell? ⟨L.q, 0, none⟩ = some (nodeOf x r) := by rw [← hwa]; exact World.cell?_setCell_same _ _ _ a0
      have z1 : wa.cell? ⟨L.q, 1, none⟩ = some L.vc := by rw [← hwa]; exact (World.cell?_setCell_other _ _ _ _ (by simp)).trans a1
      have z2 : wa.cell? ⟨L.q, 2, none⟩ = some L.vo := by rw [← hwa]; exact (World.cell?_setCell_other _ _ _ _ (by simp)).trans a2
      have y1 := ka.cell b1 (nL _ (Ne.symm qne))
      have y2 := ka.cell b2 (nL _ (Ne.symm qne))
      have fb : ∀ o, wa.frozen? ⟨b.q, o, none⟩ = false := fun o => (ka.frozen (p := ⟨b.q, o, none⟩) bq (nL _ (Ne.symm qne))).trans (b3 o)
      have g1 := a4.kept ka (fun g hg => nL g (inL.1 g hg).1)
      have g2 := a5.kept ka (fun g hg => nL g (inL.2 g hg))
      have g3 := b4.kept ka (fun g hg => nL g (fun e => LB L.q L.mq (e ▸ Lv.mo hg)))
      have g4 := b5.kept ka (fun g hg => nL g (fun e => LB L.q L.mq (e ▸ Lv.mc hg)))
      have gr := hr.kept ka (fun g hg => nL g (fun e => LR L.q L.mq (e ▸ hg)))
      have G1 := Lib.hid g1; clear g1
      have G2 := Lib.hid g2; clear g2
      have G3 := Lib.hid g3; clear g3
      have G4 := Lib.hid g4; clear g4
      have GR := Lib.hid gr; clear gr
      have KA := Lib.hid ka; clear ka
      have Z0 := Lib.hid z0; clear z0
      have FL := Lib.hid fL
      have FB := Lib.hid fb
      have INL := Lib.hid inL; clear inL
      have INB := Lib.hid inB; clear inB
      have LBH := Lib.hid LB
      have LRH := Lib.hid LR
      have BRH := Lib.hid BR
      have HR := Lib.hid hr; clear hr
      have HSL := Lib.hid hsL; clear hsL
      have HSB := Lib.hid hsb; clear hsb
      have HS := Lib.hid hs; clear hs
      have HV := Lib.hid hv; clear hv
      have HP := Lib.hid hp; clear hp
      have HXS := Lib.hid hxs; clear hxs
      have HOS := Lib.hid hos; clear hos
      have HPS := Lib.hid hps; clear hps
      have DR := Lib.hid dr; clear dr
      have IHH := Lib.hid ih; clear ih
      have QNE := Lib.hid qne; clear qne
      have fL0 := a3 0
      clear hd hx ho hpl hn dbr dLx dbx db dL a4 a5 b4 b5 a3 b3 fL fb LB LR BR a1 a2 b1 b2
      obtain ⟨Q, hQ⟩ : ∃ q, L.q = q := ⟨_, rfl⟩
      obtain ⟨S, hS⟩ : ∃ q, b.q = q := ⟨_, rfl⟩
      obtain ⟨ndT, ndy, hnd⟩ : ∃ T y, nodeOf x r = .iface T (.pointer (some ⟨y, 0, none⟩)) := by cases r <;> exact ⟨_, _, rfl⟩
      rw [hnd] at hwa b0
      rw [hQ, hS] at a0
      rw [hS] at b0 y1 y2
      rw [hQ] at hwa z1 z2 fL0 ⊢
      have HQ := Lib.hid hQ; clear hQ
      have HSS := Lib.hid hS; clear hS
      have ta := fun w : World => ta_yes_Parens (.pointer (some ⟨S, 0, none⟩)) 31 w
      have HND := Lib.hid hnd; clear hnd
      go_enter Tryf.func80, Tryf.ntmps80
      go_wp2_with fail
      (try rw [hwa])
      go_still_tail 7, (by kernel_rfl)
      still_call (openFP_still _ Q)
      repeat still_step
      refine wpStill_nil ?_
      go_wp2_with fail
      have qd : Kept [] wa wa.drew := (Kept.refl [] wa).drew
      have hal : Q < wa.heap.size := by have := World.block_lt_of_cell? wa _ z1; exact this
      have hbl : S < wa.heap.size := by have := World.block_lt_of_cell? wa _ y1; exact this
      have SQ : Q ≠ S := by rw [← HQ.out, ← HSS.out]; exact QNE.out
      have inb : ∀ g, b.vo.ownBlock = some g → g ≠ Q ∧ g ≠ S := fun g hg => ⟨fun e => LBH.out Q (HQ.out ▸ L.mq) (e ▸ Lv.mo hg), fun e => (INB.out.1 g hg).1 (e.trans HSS.out.symm)⟩
      have inb2 : ∀ g, b.vc.ownBlock = some g → g ≠ Q ∧ g ≠ S := fun g hg => ⟨fun e => LBH.out Q (HQ.out ▸ L.mq) (e ▸ Lv.mc hg), fun e => (INB.out.2 g hg) (e.trans HSS.out.symm)⟩
      have inl : ∀ g, L.vo.ownBlock = some g → g ≠ Q ∧ g ≠ S ∧ b.vo.ownBlock ≠ some g := fun g hg => ⟨fun e => (INL.out.1 g hg).1 (e.trans HQ.out.symm), fun e => LBH.out g (Lv.mo hg) (by rw [e, ← HSS.out]; exact b.mq), fun e => LBH.out g (Lv.mo hg) (Lv.mo e)⟩
      have inl2 : ∀ g, L.vc.ownBlock = some g → g ≠ Q ∧ g ≠ S ∧ b.vc.ownBlock ≠ some g ∧ b.vo.ownBlock ≠ some g := fun g hg => ⟨fun e => (INL.out.2 g hg) (e.trans HQ.out.symm), fun e => LBH.out g (Lv.mc hg) (by rw [e, ← HSS.out]; exact b.mq), fun e => LBH.out g (Lv.mc hg) (Lv.mc e), fun e => LBH.out g (Lv.mc hg) (Lv.mo e)⟩
      refine (fmove_any _ base Q 2 S 2 L.vo b.vo L.lo b.lo (G1.out.kept qd (by simp)) (G3.out.kept qd (by simp)) (qd.cell z2 (by simp)) (qd.cell y2 (by simp)) ((qd.frozen (p := ⟨Q, 2, none⟩) hal (by simp)).trans (by rw [← HQ.out]; exact FL.out 2))
        ((qd.frozen (p := ⟨S, 2, none⟩) hbl (by simp)).trans (by rw [← HSS.out]; exact FB.out 2)) (fun e => SQ (congrArg Addr.block e)) inl inb (by have := HSL.out.1.2; have := HSB.out.1.2; omega) (Nat.le_trans hb (Nat.le_trans KA.out.size qd.size)) (fun y hy hk => by rw [HSL.out.1.1 y (List.mem_of_getElem? hy)] at hk; cases hk)).mono ?_
      rintro e w1 ⟨rfl, vo', vo2, lo', hcon1, c1, c2, f1, f2, o1, o2, k1, r1⟩
      have hlo : lo' = b.lo ++ L.lo := conc_short HSL.out.1 hcon1
      dsimp only at k1 r1 o1 o2
      have notin : ∀ g, g ≠ Q → g ≠ S → b.vo.ownBlock ≠ some g → g ∉ Q :: S :: b.vo.ownBlock.toList := fun g h1 h2 h3 hm => by
        simp at hm
        rcases hm with e | e | e
        · exact h1 e
        · exact h2 e
        · exact h3 e
      have x0 : w1.cell? ⟨Q, 0, none⟩ = some (nodeOf x r) := (r1.1 ⟨Q, 0, none⟩ (Or.inl rfl) (by simp) (by simp)).trans (qd.cell (by rw [← HQ.out]; exact Z0.out) (by simp))
      have x1 : w1.cell? ⟨Q, 1, none⟩ = some L.vc := (r1.1 ⟨Q, 1, none⟩ (Or.inl rfl) (by simp) (by simp)).trans (qd.cell z1 (by simp))
      have s1 : w1.cell? ⟨S, 1, none⟩ = some b.vc := (r1.1 ⟨S, 1, none⟩ (Or.inr rfl) (by simp) (by simp)).trans (qd.cell y1 (by simp))
      have fq : ∀ o, w1.frozen? ⟨Q, o, none⟩ = false := fun o => (r1.2 ⟨Q, o, none⟩ (Or.inl rfl)).trans ((qd.frozen (p := ⟨Q, o, none⟩) hal (by simp)).trans (by rw [← HQ.out]; exact FL.out o))
      have fs : ∀ o, w1.frozen? ⟨S, o, none⟩ = false := fun o => (r1.2 ⟨S, o, none⟩ (Or.inr rfl)).trans ((qd.frozen (p := ⟨S, o, none⟩) hbl (by simp)).trans (by rw [← HSS.out]; exact FB.out o))
      have h2 := (G2.out.kept qd (by simp)).kept k1 (fun g hg => notin g (inl2 g hg).1 (inl2 g hg).2.1 (inl2 g hg).2.2.2)
      have h4 := (G4.out.kept qd (by simp)).kept k1 (fun g hg => notin g (inb2 g hg).1 (inb2 g hg).2 (fun e => (INB.out.1 g e).2 hg))
      have hr1 := (GR.out.kept qd (by simp)).kept k1 (fun g hg => notin g (fun e => LRH.out L.q L.mq (by rw [HQ.out, ← e]; exact hg)) (fun e => BRH.out b.q b.mq (by rw [HSS.out, ← e]; exact hg)) (fun e => BRH.out g (Lv.mo e) hg))
      have kw1 : Kept (L.blocks ++ b.blocks) w w1 := ((KA.out.mono (T := L.blocks ++ b.blocks) (fun g hg => Or.inl (by simp at hg; subst hg; exact List.mem_append_left _ L.mq))).trans (qd.mono (by simp))).trans (k1.mono (fun g hg => Or.inl (by
        simp at hg
        rcases hg with e | e | e
        · rw [e, ← HQ.out]; exact List.mem_append_left _ L.mq
        · rw [e, ← HSS.out]; exact List.mem_append_right _ b.mq
        · exact List.mem_append_right _ (Lv.mo e))))
      have own1 : ∀ g, vo'.ownBlock = some g → (g ∈ L.blocks ∨ g ∈ b.blocks ∨ w.heap.size ≤ g) ∧ g ≠ Q ∧ g ≠ S := fun g hg => by
        obtain ⟨n1, n2, _, n4⟩ := o1 g hg
        refine ⟨?_, n1, n2⟩
        rcases n4 with e | e | e
        · exact Or.inl (Lv.mo e)
        · exact Or.inr (Or.inl (Lv.mo e))
        · exact Or.inr (Or.inr (Nat.le_trans (Nat.le_trans KA.out.size qd.size) e))
      have voc : ∀ g, vo'.ownBlock = some g → b.vc.ownBlock ≠ some g := fun g hg hg2 => by
        obtain ⟨_, _, _, n4⟩ := o1 g hg
        rcases n4 with e | e | e
        · exact LBH.out g (Lv.mo e) (Lv.mc hg2)
        · exact (INB.out.1 g e).2 hg2
        · have := (World.ownsRow.lt G4.out g hg2).2
          have := qd.size
          omega
      have OWN1 := Lib.hid own1; clear own1
      have VOC := Lib.hid voc; clear voc
      have KW1 := Lib.hid kw1; clear kw1
      have HLO := Lib.hid hlo; clear hlo
      have X0 := Lib.hid x0; clear x0
      have FQ := Lib.hid fq; clear fq
      have FSh := Lib.hid fs; clear fs
      have H2 := Lib.hid h2; clear h2
      have H4 := Lib.hid h4; clear h4
      have HR1 := Lib.hid hr1; clear hr1
      have C1 := Lib.hid c1; clear c1
      have F1 := Lib.hid f1; clear f1
      have INB2 := Lib.hid inb2; clear inb2
      have INL2 := Lib.hid inl2; clear inl2
      clear c2 f2 o1 o2 k1 r1 hcon1 notin inb inl z1 z2 y1 y2 hwa fL0 G1 G2 G3 G4 GR FL FB qd a0 b0 ta
      go_wp2_with fail
      go_still_tail 6, (by kernel_rfl)
      go_wp2_with fail
      have qd : Kept [] w1 w1.drew := (Kept.refl [] w1).drew
      have hal : Q < w1.heap.size := by have := World.block_lt_of_cell? w1 _ x1; exact this
      have hbl : S < w1.heap.size := by have := World.block_lt_of_cell? w1 _ s1; exact this
      refine (fmove_any _ base Q 1 S 1 L.vc b.vc L.lc b.lc (H2.out.kept qd (by simp)) (H4.out.kept qd (by simp)) (qd.cell x1 (by simp)) (qd.cell s1 (by simp)) ((qd.frozen (p := ⟨Q, 1, none⟩) hal (by simp)).trans (FQ.out 1))
        ((qd.frozen (p := ⟨S, 1, none⟩) hbl (by simp)).trans (FSh.out 1)) (fun e => SQ (congrArg Addr.block e)) (fun g hg => ⟨(INL2.out g hg).1, (INL2.out g hg).2.1, (INL2.out g hg).2.2.1⟩) INB2.out (by have := HSL.out.2.2; have := HSB.out.2.2; omega) (Nat.le_trans hb (Nat.le_trans KW1.out.size qd.size)) (fun y hy hk => by rw [HSL.out.2.1 y (List.mem_of_getElem? hy)] at hk; cases hk)).mono ?_
      rintro e w2 ⟨rfl, vc', vc2, lc', hcon2, d1, d2, g1, g2, o3, o4, k2, r2⟩
      have hlc : lc' = b.lc ++ L.lc := conc_short HSL.out.2 hcon2
      dsimp only at k2 r2 o3 o4
      have notin : ∀ g, g ≠ Q → g ≠ S → b.vc.ownBlock ≠ some g → g ∉ Q :: S :: b.vc.ownBlock.toList := fun g h1 h2 h3 hm => by
        simp at hm
        rcases hm with e | e | e
        · exact h1 e
        · exact h2 e
        · exact h3 e
      have kw2 : Kept (L.blocks ++ b.blocks) w w2 := (KW1.out.trans (qd.mono (by simp))).trans (k2.mono (fun g hg => Or.inl (by
        simp at hg
        rcases hg with e | e | e
        · rw [e, ← HQ.out]; exact List.mem_append_left _ L.mq
        · rw [e, ← HSS.out]; exact List.mem_append_right _ b.mq
        · exact List.mem_append_right _ (Lv.mc e))))
      have own2 : ∀ g, vc'.ownBlock = some g → g ∈ L.blocks ∨ g ∈ b.blocks ∨ w.heap.size ≤ g := fun g hg => by
        obtain ⟨_, _, _, n4⟩ := o3 g hg
        rcases n4 with e | e | e
        · exact Or.inl (Lv.mc e)
        · exact Or.inr (Or.inl (Lv.mc e))
        · exact Or.inr (Or.inr (Nat.le_trans (Nat.le_trans KW1.out.size qd.size) e))
      have hj : Joined w base x L b r w2 := by
        refine ⟨⟨L.q, vo', vc', lo', lc'⟩, rfl, HLO.out, hlc, ?_, ?_, ?_, fun o => ?_, ?_, g1, ?_, kw2, fun g hg => ?_⟩
        · rw [HQ.out]; exact (r2.1 ⟨Q, 0, none⟩ (Or.inl rfl) (by simp) (by simp)).trans (qd.cell X0.out (by simp))
        · rw [HQ.out]; exact d1
        · rw [HQ.out]; exact (r2.1 ⟨Q, 2, none⟩ (Or.inl rfl) (by simp) (by simp)).trans (qd.cell C1.out (by simp))
        · rw [HQ.out]; exact (r2.2 ⟨Q, o, none⟩ (Or.inl rfl)).trans ((qd.frozen (p := ⟨Q, o, none⟩) hal (by simp)).trans (FQ.out o))
        · exact (F1.out.kept qd (by simp)).kept k2 (fun g hg => notin g (OWN1.out g hg).2.1 (OWN1.out g hg).2.2 (VOC.out g hg))
        · exact (HR1.out.kept qd (by simp)).kept k2 (fun g hg => notin g (fun e => LRH.out L.q L.mq (by rw [HQ.out, ← e]; exact hg)) (fun e => BRH.out b.q b.mq (by rw [HSS.out, ← e]; exact hg)) (fun e => BRH.out g (Lv.mc e) hg))
        · rcases Lv.mem hg with e | e | e
          · rw [e]; exact Or.inl L.mq
          · exact (OWN1.out g e).1
          · exact own2 g e
      have hp2 : IsPass w2 pb := HP.out.kept kw2 (fun hm => by
        rcases List.mem_append.1 hm with h | h
        · exact HPS.out.1 h
        · exact HPS.out.2.1 h)
      have hv2 : VarAt w2 base x ve le := HV.out.kept kw2 (fun hm => by
        rcases List.mem_append.1 hm with h | h
        · exact HXS.out.1 h
        · exact HXS.out.2.1 h) (fun g hg hm => by
        rcases List.mem_append.1 hm with h | h
        · exact (HOS.out g hg).1 h
        · exact (HOS.out g hg).2.1 h)
      have hpart := part_base w2 pb hp2
      have HJ := Lib.hid hj; clear hj
      have HP2 := Lib.hid hp2; clear hp2
      have HV2 := Lib.hid hv2; clear hv2
      have hsz2 := kw2.size
      clear d1 d2 g1 g2 o3 o4 k2 r2 hcon2 notin kw2 own2 qd x1 s1
      go_wp2_with fail
      have hR := joined_rest HR.out LRH.out BRH.out HJ.out
      have HRR := Lib.hid hR; clear hR
      refine (base_Par w2 base pb Q ctx _ (fun w' => Halved w2 base x r w') HP2.out (fun wx q => ?_) (fun w' hh => ?_)).mono ?_
      · obtain ⟨L', j1, -, -, j4, -, -, -, -, -, j10, -⟩ := HJ.out
        refine (visit_in n IHH.out r hn2 wx base x pb Q 0 _ ctx ve le (j10.kept q (by simp)) (fun M hM => HS.out M (by simp [hM])) DR.out (HV2.out.kept q (by simp) (by simp)) HXS.out.2.2 (fun g hg => (HOS.out g hg).2.2) (HP2.out.kept q (by simp)) HPS.out.2.2 (Nat.le_trans hb (Nat.le_trans hsz2 q.size)) (q.cell (by rw [← HQ.out]; exact j4) (by simp))).mono ?_
        rintro e w' ⟨rfl, hh⟩
        exact ⟨rfl, hh.before q⟩
      · obtain ⟨L', c1, f1⟩ := HRR.out w' hh
        obtain ⟨_, _, _, _, k3, _⟩ := hh
        exact ⟨HP2.out.kept k3 HPS.out.2.2, L'.vc, L'.lc, by rw [← HQ.out]; exact c1, f1⟩
      · rintro e w4 ⟨rfl, w3, hh, k4⟩
        have HH := Lib.hid hh; clear hh
        have K4 := Lib.hid k4; clear k4
        go_wp2_with fail
        go_end0
        exact ⟨rfl, (joined_halved HR.out LRH.out BRH.out HJ.out HH.out).after K4.out⟩
end Go.Proofs.YtepipmjcfnncdaaFmt
