/- The contracts of FixNewlines.Object and of n008_124's ZZFixObject. -/
import Derived.Test.YtfacfgecnpeceaaFmtGo
import Derived.Deep.MidRow
import Derived.Deep.WholeRow
namespace Go.Proofs.YtfacfgecnpeceaaFmt
open Go.ChangeShapes Go.WideShapes Go.ChangeAt Go.RowKit

theorem rg_nil {w : World} {b o : Nat} : w.rangeAt b o [] := fun j v h => by simp at h
theorem rg_cons {w : World} {b o : Nat} {x : Value} {xs : List Value} (h : w.cell? ⟨b, o, none⟩ = some x) (hs : w.rangeAt b (o + 1) xs) : w.rangeAt b o (x :: xs) := fun j v hv => by
  cases j with
  | zero => simp only [List.getElem?_cons_zero, Option.some.injEq] at hv; subst hv; exact h
  | succ j =>
    have := hs j v (by simpa using hv)
    rwa [show o + 1 + j = o + (j + 1) by omega] at this
set_option maxRecDepth 100000 in
theorem fld_size : (Tryf.prog.info? 76).map (·.size) = some 18 := by kernel_rfl
set_option maxRecDepth 100000 in
theorem fld_row : (Tryf.prog.underlying 76).map (·.isRow) = some true := by kernel_rfl
/-- The copy of a field into a new block. -/
theorem run_storeCells_fld (w : World) (vs : List Value) (hl : vs.length = 18) (h1 : vs.toArray.all (·.oneCell') = true) : (storeCells ⟨w.heap.size, 0, none⟩ vs).run Tryf.prog (w.alloc (.cells #[.pointer none, .pointer none, .slice none 0 0, .slice none 0 0, .slice none 0 0, .slice none 0 0, .nilIface, .nilIface, .nilIface, .pointer none, .string ⟨#[]⟩, .int .i64 0, .int .i64 0, .int .i64 0, .int .i64 0, .int .i64 0, .int .i64 0, .bool false] 76)) = .ok () (w.alloc (.cells vs.toArray 76)) :=
  run_storeCells_new w 76 #[.pointer none, .pointer none, .slice none 0 0, .slice none 0 0, .slice none 0 0, .slice none 0 0, .nilIface, .nilIface, .nilIface, .pointer none, .string ⟨#[]⟩, .int .i64 0, .int .i64 0, .int .i64 0, .int .i64 0, .int .i64 0, .int .i64 0, .bool false] vs.toArray (by rw [List.size_toArray, hl]; exact fld_size) (by rw [show vs.toArray.size = 18 from by simp [hl]]; rfl) h1

/-- Does one of the first k opening fodders count a line break? -/
def goTo (l : Nat × Nat → List FE) (k : Nat) : Bool := (List.range k).any fun i => decide (0 < sumNL (l (i, 0)))
theorem goTo_succ (l : Nat × Nat → List FE) (k : Nat) : goTo l (k + 1) = (goTo l k || decide (0 < sumNL (l (k, 0)))) := by
  unfold goTo
  rw [List.range_succ, List.any_append]
  simp
/-- The fodders that are ended. -/
def gS (F : Gs) (x : Nat × Nat) : Prop := x = (F.nf, 0) ∨ (x.1 < F.nf ∧ x.2 = 0)
def gD (F : Gs) (j : Nat) (x : Nat × Nat) : Prop := x.1 < j ∧ j ≤ F.nf ∧ x.2 = 0
theorem gD_succ (F : Gs) {j : Nat} (hj : j < F.nf) (x : Nat × Nat) : (gD F j x ∨ x = (j, 0)) ↔ gD F (j + 1) x := by
  obtain ⟨a, b⟩ := x
  simp only [gD, Prod.mk.injEq]
  constructor
  · rintro (⟨h1, h2, h3⟩ | ⟨h1, h2⟩)
    · exact ⟨by omega, by omega, h3⟩
    · exact ⟨by omega, by omega, h2⟩
  · rintro ⟨h1, h2, h3⟩
    by_cases hb : a < j
    · exact Or.inl ⟨hb, by omega, h3⟩
    · exact Or.inr ⟨by omega, h3⟩
def gE (F : Gs) (l : Nat × Nat → List FE) : Bool := goTo l F.nf || decide (0 < sumNL (l (F.nf, 0)))
/-- What FixNewlines.Object leaves. -/
def GTo (w : World) (base ob : Nat) (F : Gs) (Q : Nat → Prop) (l : Nat × Nat → List FE) (w' : World) : Prop :=
  ∃ v' l', OB w' base ob F Q v' l' ∧ (∀ x, gI F x → (gS F x ∧ gE F l = true ∧ Ens (l x) (l' x)) ∨ ((¬ gS F x ∨ gE F l = false) ∧ l' x = l x)) ∧ Below base w w' ∧ (∀ g, Q g → (∀ x, gI F x → (gp F ob x).1 ≠ g) → w'.heap[g]? = w.heap[g]?) ∧
    ((gE F l = true → ∀ x, gI F x → gS F x → clean (l x) = true) → Kept [] w w')
theorem FamTI.same {ι : Type} {w0 w : World} {base : Nat} {I : ι → Prop} {p : ι → Nat × Nat} {Q : Nat → Prop} {l : ι → List FE} {D : ι → Prop} (h : FamTI w0 base I p Q l D w) : SameI I p Q w0 w := by
  obtain ⟨_, _, _, _, s, _⟩ := h
  exact s
theorem g_step {w0 w : World} {base ob : Nat} {F : Gs} {Q : Nat → Prop} {l : Nat × Nat → List FE} (hb : base ≤ w0.heap.size) (hl : ∀ x, gI F x → clean (l x) = false → (l x).length ≤ 1048576) {D : Nat × Nat → Prop} (ht : FamTI w0 base (gI F) (gp F ob) Q l D w) (x : Nat × Nat) (hx : gI F x) (hD : ¬ D x) (g o : Nat) (hg : gp F ob x = (g, o)) :
    Calls Tryf.prog 23 #[.pointer (some ⟨g, o, none⟩)] w fun e w' => e = .returned (.tuple #[]) ∧ FamTI w0 base (gI F) (gp F ob) Q l (fun i => D i ∨ i = x) w' := by
  have := ensure_FamI w base (gI F) x (gp F ob) Q l D w0 ht hx hD (hl x hx) hb
  rw [hg] at this
  exact this
theorem g_end {w0 w : World} {base ob : Nat} {F : Gs} {Q : Nat → Prop} {v : Nat × Nat → Value} {l : Nat × Nat → List FE} (h : OB w0 base ob F Q v l) (hE : gE F l = true) (ht : FamTI w0 base (gI F) (gp F ob) Q l (fun x => gD F F.nf x ∨ x = (F.nf, 0)) w) : GTo w0 base ob F Q l w := by
  obtain ⟨v', l', f1, f2, f3, f4, f5⟩ := ht
  have key : ∀ x, gI F x → (gS F x ↔ (gD F F.nf x ∨ x = (F.nf, 0))) := fun x hx => by
    constructor
    · rintro (rfl | ⟨a, b⟩)
      · exact Or.inr rfl
      · exact Or.inl ⟨a, Nat.le_refl _, b⟩
    · rintro (⟨a, _, b⟩ | rfl)
      · exact Or.inr ⟨a, b⟩
      · exact Or.inl rfl
  refine ⟨v', l', h.next f3 f1, fun x hx => ?_, f4, fun g hg hn => f3.blk g hg hn, fun hc => f5 (fun x hx hD => hc hE x hx ((key x hx).2 hD))⟩
  rcases f2 x hx with ⟨a, b⟩ | ⟨a, b⟩
  · exact Or.inl ⟨(key x hx).2 a, hE, b⟩
  · exact Or.inr ⟨Or.inl (fun s => a ((key x hx).1 s)), b⟩
theorem GTo.kept {w w' w'' : World} {base ob : Nat} {F : Gs} {Q : Nat → Prop} {l : Nat × Nat → List FE} (h : GTo w base ob F Q l w') (q : Kept [] w' w'') (hb : base ≤ w.heap.size) : GTo w base ob F Q l w'' := by
  obtain ⟨v', l', h1, h2, h3, h4, h5⟩ := h
  exact ⟨v', l', h1.kept q, h2, h3.trans (q.below (Nat.le_trans hb h3.size) (by simp)), fun g hg hn => (q.block g (h1.fam.lt g hg) (by simp)).trans (h4 g hg hn), fun hc => (h5 hc).trans q⟩

set_option maxRecDepth 100000 in
set_option maxHeartbeats 16000000 in
theorem fix_ob_0 (w : World) (base ob : Nat) (F : Gs) (Q : Nat → Prop) (v : Nat × Nat → Value) (l : Nat × Nat → List FE) (h : OB w base ob F Q v l) (hk : ∀ x, gI F x → Kinds (l x)) (hl : ∀ x, gI F x → clean (l x) = false → (l x).length ≤ 1048576) (hb : base ≤ w.heap.size) (pb : Nat) (hpb : IsPass w pb) (hpQ : Q pb) (hpp : ∀ x, gI F x → (gp F ob x).1 ≠ pb) (ctx : Value) (h1 : goTo l F.nf = false) :
    Calls Tryf.prog 17 #[.pointer (some ⟨pb, 0, none⟩), .iface 77 (.pointer (some ⟨pb, 0, none⟩)), .pointer (some ⟨ob, 0, none⟩), ctx] w fun e w' => e = .returned (.tuple #[]) ∧ GTo w base ob F Q l w' := by
  have G1 := Lib.hid h1; clear h1
  have c0 := h.c0
  obtain ⟨ml1, ml2, ml3⟩ := h.ml
  unfold maxLen at ml2
  obtain ⟨ka, kn, kc, hvc⟩ := (h.fam.fod (F.nf, 0) (gI_c F)).isSlice
  have cc := h.cc
  rw [hvc] at cc
  have FC := Lib.hid (h.fam.fod (F.nf, 0) (gI_c F))
  rw [hvc] at FC
  have H := Lib.hid h; clear h
  have HKD := Lib.hid hk; clear hk
  have HL := Lib.hid hl; clear hl
  have HPB := Lib.hid hpb; clear hpb
  have HPQ := Lib.hid hpQ; clear hpQ
  have HPP := Lib.hid hpp; clear hpp
  have CCl := Lib.hid cc
  obtain ⟨NF, hNF⟩ : ∃ m, F.nf = m := ⟨_, rfl⟩
  obtain ⟨FB, hFB⟩ : ∃ m, F.fb = m := ⟨_, rfl⟩
  obtain ⟨FCp, hFCp⟩ : ∃ m, F.cap = m := ⟨_, rfl⟩
  rw [hNF, hFB, hFCp] at c0
  rw [hNF, hFCp] at ml1
  rw [hFCp] at ml2
  rw [hNF] at ml3
  have C0 := Lib.hid c0
  have HCP := Lib.hid hFCp
  have HNF := Lib.hid hNF; clear hNF
  have HFB := Lib.hid hFB; clear hFB
  clear hvc cc hFCp
  go_enter Tryf.func17, Tryf.ntmps17
  go_wp2_with fail
  clear c0
  go_loopw [8, 17] (fun c i wr => ∃ k : Nat, k ≤ NF ∧ i = .int .i64 k ∧ c = .bool (goTo l k) ∧ Kept [] w wr) (fun _ i _ => NF - (intOf i).toNat)
  case atStart => exact ⟨0, Nat.zero_le _, rfl, rfl, Kept.refl _ _⟩
  case round =>
    obtain ⟨k, hk, rfl, rfl, hq⟩ := hrel
    have HQ := Lib.hid hq; clear hq
    by_cases hlt : k < NF
    · have hkn : k < F.nf := by rw [HNF.out]; exact hlt
      have hc := H.out.kept HQ.out
      obtain ⟨ua, un, uc, hu⟩ := (hc.fam.fod _ (gI_o hkn)).isSlice
      obtain ⟨ta, tn, tc, htt⟩ := (hc.fam.fod _ (gI_t hkn)).isSlice
      have FU := Lib.hid (hu ▸ hc.fam.fod _ (gI_o hkn))
      have hes := goTo_succ l k
      obtain ⟨L0, hL0⟩ : ∃ L0, goTo l k = L0 := ⟨_, rfl⟩
      rw [hL0] at hes ⊢
      clear hL0
      obtain ⟨U, hU⟩ : ∃ U, sumNL (l (k, 0)) = U := ⟨_, rfl⟩
      rw [hU] at hes
      have HES := Lib.hid hes; clear hes
      have HUU := Lib.hid hU; clear hU
      have KN := Lib.hid hkn
      have e0 := hc.st k 0 hkn ⟨by omega, by omega, by omega⟩
      have e1 := hc.st k 1 hkn ⟨by omega, by omega, by omega⟩
      have e4 := hc.st k 4 hkn ⟨by omega, by omega, by omega⟩
      have e5 := hc.st k 5 hkn ⟨by omega, by omega, by omega⟩
      have e6 := hc.st k 6 hkn ⟨by omega, by omega, by omega⟩
      have e7 := hc.st k 7 hkn ⟨by omega, by omega, by omega⟩
      have e8 := hc.st k 8 hkn ⟨by omega, by omega, by omega⟩
      have e9 := hc.st k 9 hkn ⟨by omega, by omega, by omega⟩
      have e10 := hc.st k 10 hkn ⟨by omega, by omega, by omega⟩
      have e11 := hc.st k 11 hkn ⟨by omega, by omega, by omega⟩
      have e12 := hc.st k 12 hkn ⟨by omega, by omega, by omega⟩
      have e13 := hc.st k 13 hkn ⟨by omega, by omega, by omega⟩
      have e14 := hc.st k 14 hkn ⟨by omega, by omega, by omega⟩
      have e15 := hc.st k 15 hkn ⟨by omega, by omega, by omega⟩
      have e16 := hc.st k 16 hkn ⟨by omega, by omega, by omega⟩
      have e17 := hc.st k 17 hkn ⟨by omega, by omega, by omega⟩
      rw [HFB.out] at e0 e1 e4 e5 e6 e7 e8 e9 e10 e11 e12 e13 e14 e15 e16 e17
      simp only [stG, varS, Nat.add_zero, List.getElem?_cons_succ, List.getElem?_cons_zero] at e0 e1 e4 e5 e6 e7 e8 e9 e10 e11 e12 e13 e14 e15 e16 e17
      obtain ⟨dd, hu1, hu2⟩ := Option.map_eq_some_iff.1 fld_row
      have HU1 := Lib.hid hu1; have HU2 := Lib.hid hu2; clear hu1 hu2
      rcases hc.kds k hkn with hs | hs | hs
      · skip
        have e2 := hc.ct k hkn (by omega)
        have e3 := hc.co k hkn (by omega)
        rw [htt, HFB.out] at e2
        rw [hu, HFB.out] at e3
        have he6 : e1G F k = .nilIface := by unfold e1G; rw [hs]; rfl
        rw [he6] at e6
        rw [hs] at e15
        obtain ⟨vs, hrg, hsz, hone, v15, v3, v6⟩ : ∃ vs : List Value, wr.rangeAt FB (k * 18) vs ∧ vs.length = 18 ∧ vs.toArray.all (·.oneCell') = true ∧ vs.toArray[15]? = some (.int .i64 1) ∧ vs.toArray[3]? = some (.slice ua un uc) ∧ vs.toArray[6]? = some (.nilIface) :=
          ⟨_, (rg_cons e0 (rg_cons e1 (rg_cons e2 (rg_cons e3 (rg_cons e4 (rg_cons e5 (rg_cons e6 (rg_cons e7 (rg_cons e8 (rg_cons e9 (rg_cons e10 (rg_cons e11 (rg_cons e12 (rg_cons e13 (rg_cons e14 (rg_cons e15 (rg_cons e16 (rg_cons e17 rg_nil)))))))))))))))))), rfl, all_oneCell_toArray (by simp [Value.oneCell']), rfl, rfl, rfl⟩
        have ka := fun o => HQ.out.alloc o
        have KA := Lib.hid ka; clear ka hs he6 hkn hc hu htt e0 e1 e2 e3 e4 e5 e6 e7 e8 e9 e10 e11 e12 e13 e14 e15 e16 e17
        have hst := run_storeCells_fld wr vs hsz hone
        have b15 := (cell_of_block (heap_alloc_new wr (.cells vs.toArray 76)) 15).trans v15
        have b3 := (cell_of_block (heap_alloc_new wr (.cells vs.toArray 76)) 3).trans v3
        have b6 := (cell_of_block (heap_alloc_new wr (.cells vs.toArray 76)) 6).trans v6
        have HRG := Lib.hid hrg; have HSZ := Lib.hid hsz; have B15 := Lib.hid b15; have B6 := Lib.hid b6; have B3 := Lib.hid b3; clear hrg hsz hone v15 v3 v6 b15 b6 b3
        go_wp2_with (refine wpList_load_mid rfl 76 _ rfl FB (k * 18) rfl vs dd HRG.out HU1.out HU2.out (by rw [HSZ.out]; exact fld_size) ?_)
        clear hst
        refine (openOf_own _ wr.heap.size 0 1 (by omega) B15.out).mono ?_
        rintro e wx ⟨rfl, rfl⟩
        have b3 := B3.out
        go_wp2_with fail
        refine (count_any _ base _ (l (k, 0)) (FU.out.kept ((Kept.refl [] wr).alloc _) (by simp)) (HKD.out _ (gI_o KN.out))).mono ?_
        rintro e w2 ⟨rfl, k2⟩
        rw [HUU.out]
        have K2 := Lib.hid ((KA.out _).trans k2); clear k2
        by_cases hU0 : 0 < U
        · go_wp2_with fail
          exact ⟨⟨k + 1, by omega, by go_num, by rw [HES.out]; simp [hU0], K2.out⟩, by simp [intOf]; omega⟩
        · go_wp2_with fail
          exact ⟨⟨k + 1, by omega, by go_num, by rw [HES.out, decide_eq_false (show ¬ 0 < U by omega)]; simp, K2.out⟩, by simp [intOf]; omega⟩
      · skip
        have e2 := hc.ct k hkn (by omega)
        have e3 := hc.co k hkn (by omega)
        rw [htt, HFB.out] at e2
        rw [hu, HFB.out] at e3
        have he6 : e1G F k = varS (F.y k) := by unfold e1G; rw [hs]; rfl
        rw [he6] at e6
        rw [hs] at e15
        obtain ⟨vs, hrg, hsz, hone, v15, v3, v6⟩ : ∃ vs : List Value, wr.rangeAt FB (k * 18) vs ∧ vs.length = 18 ∧ vs.toArray.all (·.oneCell') = true ∧ vs.toArray[15]? = some (.int .i64 2) ∧ vs.toArray[3]? = some (.slice ua un uc) ∧ vs.toArray[6]? = some (varS (F.y k)) :=
          ⟨_, (rg_cons e0 (rg_cons e1 (rg_cons e2 (rg_cons e3 (rg_cons e4 (rg_cons e5 (rg_cons e6 (rg_cons e7 (rg_cons e8 (rg_cons e9 (rg_cons e10 (rg_cons e11 (rg_cons e12 (rg_cons e13 (rg_cons e14 (rg_cons e15 (rg_cons e16 (rg_cons e17 rg_nil)))))))))))))))))), rfl, all_oneCell_toArray (by simp [Value.oneCell', varS]), rfl, rfl, rfl⟩
        have ka := fun o => HQ.out.alloc o
        have KA := Lib.hid ka; clear ka hs he6 hkn hc hu htt e0 e1 e2 e3 e4 e5 e6 e7 e8 e9 e10 e11 e12 e13 e14 e15 e16 e17
        have hst := run_storeCells_fld wr vs hsz hone
        have b15 := (cell_of_block (heap_alloc_new wr (.cells vs.toArray 76)) 15).trans v15
        have b3 := (cell_of_block (heap_alloc_new wr (.cells vs.toArray 76)) 3).trans v3
        have b6 := (cell_of_block (heap_alloc_new wr (.cells vs.toArray 76)) 6).trans v6
        have HRG := Lib.hid hrg; have HSZ := Lib.hid hsz; have B15 := Lib.hid b15; have B6 := Lib.hid b6; have B3 := Lib.hid b3; clear hrg hsz hone v15 v3 v6 b15 b6 b3
        go_wp2_with (refine wpList_load_mid rfl 76 _ rfl FB (k * 18) rfl vs dd HRG.out HU1.out HU2.out (by rw [HSZ.out]; exact fld_size) ?_)
        clear hst
        refine (openOf_own _ wr.heap.size 0 2 (by omega) B15.out).mono ?_
        rintro e wx ⟨rfl, rfl⟩
        have b3 := B3.out
        go_wp2_with fail
        refine (count_any _ base _ (l (k, 0)) (FU.out.kept ((Kept.refl [] wr).alloc _) (by simp)) (HKD.out _ (gI_o KN.out))).mono ?_
        rintro e w2 ⟨rfl, k2⟩
        rw [HUU.out]
        have K2 := Lib.hid ((KA.out _).trans k2); clear k2
        by_cases hU0 : 0 < U
        · go_wp2_with fail
          exact ⟨⟨k + 1, by omega, by go_num, by rw [HES.out]; simp [hU0], K2.out⟩, by simp [intOf]; omega⟩
        · go_wp2_with fail
          exact ⟨⟨k + 1, by omega, by go_num, by rw [HES.out, decide_eq_false (show ¬ 0 < U by omega)]; simp, K2.out⟩, by simp [intOf]; omega⟩
      · skip
        have e2 := hc.st k 2 hkn ⟨by omega, by omega, fun _ => hs⟩
        have e3 := hc.ct3 k hkn hs
        rw [HFB.out] at e2
        simp only [stG, List.getElem?_cons_succ, List.getElem?_cons_zero] at e2
        rw [htt, HFB.out] at e3
        have ey := (hc.cy k hkn hs).1
        rw [hu] at ey
        have EY := Lib.hid ey; clear ey
        have he6 : e1G F k = litS (F.y k) := by unfold e1G; rw [hs]; rfl
        rw [he6] at e6
        rw [hs] at e15
        obtain ⟨vs, hrg, hsz, hone, v15, v3, v6⟩ : ∃ vs : List Value, wr.rangeAt FB (k * 18) vs ∧ vs.length = 18 ∧ vs.toArray.all (·.oneCell') = true ∧ vs.toArray[15]? = some (.int .i64 3) ∧ vs.toArray[3]? = some (.slice ta tn tc) ∧ vs.toArray[6]? = some (litS (F.y k)) :=
          ⟨_, (rg_cons e0 (rg_cons e1 (rg_cons e2 (rg_cons e3 (rg_cons e4 (rg_cons e5 (rg_cons e6 (rg_cons e7 (rg_cons e8 (rg_cons e9 (rg_cons e10 (rg_cons e11 (rg_cons e12 (rg_cons e13 (rg_cons e14 (rg_cons e15 (rg_cons e16 (rg_cons e17 rg_nil)))))))))))))))))), rfl, all_oneCell_toArray (by simp [Value.oneCell', litS]), rfl, rfl, rfl⟩
        have ka := fun o => HQ.out.alloc o
        have KA := Lib.hid ka; clear ka hs he6 hkn hc hu htt e0 e1 e2 e3 e4 e5 e6 e7 e8 e9 e10 e11 e12 e13 e14 e15 e16 e17
        have hst := run_storeCells_fld wr vs hsz hone
        have b15 := (cell_of_block (heap_alloc_new wr (.cells vs.toArray 76)) 15).trans v15
        have b3 := (cell_of_block (heap_alloc_new wr (.cells vs.toArray 76)) 3).trans v3
        have b6 := (cell_of_block (heap_alloc_new wr (.cells vs.toArray 76)) 6).trans v6
        have HRG := Lib.hid hrg; have HSZ := Lib.hid hsz; have B15 := Lib.hid b15; have B6 := Lib.hid b6; have B3 := Lib.hid b3; clear hrg hsz hone v15 v3 v6 b15 b6 b3
        go_wp2_with (refine wpList_load_mid rfl 76 _ rfl FB (k * 18) rfl vs dd HRG.out HU1.out HU2.out (by rw [HSZ.out]; exact fld_size) ?_)
        clear hst
        refine (openOf_str _ wr.heap.size 0 (F.y k) B15.out B6.out).mono ?_
        rintro e wx ⟨rfl, rfl⟩
        have ey := fun o => (((Kept.refl [] wr).alloc o).cell EY.out (by simp))
        go_wp2_with fail
        refine (count_any _ base _ (l (k, 0)) (FU.out.kept ((Kept.refl [] wr).alloc _) (by simp)) (HKD.out _ (gI_o KN.out))).mono ?_
        rintro e w2 ⟨rfl, k2⟩
        rw [HUU.out]
        have K2 := Lib.hid ((KA.out _).trans k2); clear k2
        by_cases hU0 : 0 < U
        · go_wp2_with fail
          exact ⟨⟨k + 1, by omega, by go_num, by rw [HES.out]; simp [hU0], K2.out⟩, by simp [intOf]; omega⟩
        · go_wp2_with fail
          exact ⟨⟨k + 1, by omega, by go_num, by rw [HES.out, decide_eq_false (show ¬ 0 < U by omega)]; simp, K2.out⟩, by simp [intOf]; omega⟩
    · obtain rfl : k = NF := by omega
      have hT1 : goTo l k = false := by rw [← HNF.out]; exact G1.out
      rw [hT1]
      have HT1 := Lib.hid hT1; clear hT1
      have cc := HQ.out.cell CCl.out (by simp)
      go_wp2_with fail
      refine (count_any _ base _ (l (F.nf, 0)) (FC.out.kept HQ.out (by simp)) (HKD.out _ (gI_c F))).mono ?_
      rintro e w3 ⟨rfl, k3⟩
      have K3 := Lib.hid (HQ.out.trans k3); clear k3 cc
      rw [HNF.out]
      obtain ⟨T3, hT3⟩ : ∃ T, sumNL (l (k, 0)) = T := ⟨_, rfl⟩
      rw [hT3]
      have HT3 := Lib.hid hT3; clear hT3
      by_cases t3 : 0 < T3
      · have t3d : decide (0 < T3) = true := by simp [t3]
        have T3D := Lib.hid t3d; clear t3d
        have hE : gE F l = true := by unfold gE; rw [HNF.out, HT1.out, HT3.out, T3D.out]; rfl
        have HE := Lib.hid hE; clear hE
        have c0 := K3.out.cell C0.out (by simp)
        have h0 := Lib.hid (FamTI.start H.out.fam K3.out hb (gD F 0) (fun x _ h => by have := h.1; omega))
        go_wp2_with fail
        clear c0
        go_loopw [39] (fun i wr => ∃ j : Nat, j ≤ k ∧ i = .int .i64 j ∧ FamTI w base (gI F) (gp F ob) Q l (gD F j) wr) (fun i _ => k - (intOf i).toNat)
        case atStart => exact ⟨0, Nat.zero_le _, rfl, h0.out⟩
        case round =>
          clear h0
          obtain ⟨j, hj, rfl, ht⟩ := hrel
          have hcur : ∃ v' l', OB wr base ob F Q v' l' := by
            obtain ⟨v', l', f1, f2, f3, f4, f5⟩ := ht
            exact ⟨v', l', H.out.next f3 f1⟩
          obtain ⟨v', l', hcur⟩ := hcur
          have c0 := hcur.c0
          rw [HNF.out, HFB.out, HCP.out] at c0
          have HCUR := Lib.hid hcur; clear hcur
          have HT := Lib.hid ht; clear ht
          by_cases hjl : j < k
          · have hjn : j < F.nf := by rw [HNF.out]; exact hjl
            have i1 : (0 : Int) ≤ (j : Int) := by omega
            have i2 : (j : Int) < (k : Int) := by omega
            have hens : ∀ g o, gp F ob (j, 0) = (g, o) → ∀ wx, wx = wr → Calls Tryf.prog 23 #[.pointer (some ⟨g, o, none⟩)] wx fun e w' => e = .returned (.tuple #[]) ∧ FamTI w base (gI F) (gp F ob) Q l (gD F (j + 1)) w' := fun g o hg wx hwx => by
              subst hwx
              refine (g_step hb HL.out HT.out (j, 0) (gI_o hjn) (fun h => by have := h.1; dsimp only at this; omega) g o hg).mono ?_
              rintro e w' ⟨rfl, h⟩
              exact ⟨rfl, h.congr (fun x _ => gD_succ F hjn x)⟩
            have HENS := Lib.hid hens; clear hens
            have hop := gp_o hjn ob
            by_cases hs : F.kd j = 3
            · have e15 := (HCUR.out.of3 j hjn hs).c15
              have e6 := (HCUR.out.of3 j hjn hs).c6
              rw [if_pos hs] at hop
              rw [HFB.out] at e15 e6
              have HOP := Lib.hid hop
              have E15 := Lib.hid e15
              have E6 := Lib.hid e6
              clear hop hs e15 e6 hjn
              go_wp2_with fail
              refine (openOf_str _ FB (j * 18) (F.y j) E15.out E6.out).mono ?_
              rintro e wx ⟨rfl, rfl⟩
              go_wp2_with fail
              refine (HENS.out _ _ HOP.out _ rfl).mono ?_
              rintro e wy ⟨rfl, ht⟩
              have HTN := Lib.hid ht; clear ht
              go_wp2_with fail
              exact ⟨⟨j + 1, by omega, by go_num, HTN.out⟩, by simp [intOf]; omega⟩
            · have e15 : wr.cell? ⟨F.fb, j * 18 + 15, none⟩ = some (.int .i64 (F.kd j)) := HCUR.out.st j 15 hjn ⟨by omega, by omega, by omega⟩
              rw [if_neg hs] at hop
              rw [HFB.out] at e15 hop
              have HOP := Lib.hid hop
              have E15 := Lib.hid e15
              have HS3 := Lib.hid hs
              clear hop hs e15 hjn
              go_wp2_with fail
              refine (openOf_own _ FB (j * 18) _ HS3.out E15.out).mono ?_
              rintro e wx ⟨rfl, rfl⟩
              go_wp2_with fail
              refine (HENS.out _ _ HOP.out _ rfl).mono ?_
              rintro e wy ⟨rfl, ht⟩
              have HTN := Lib.hid ht; clear ht
              go_wp2_with fail
              exact ⟨⟨j + 1, by omega, by go_num, HTN.out⟩, by simp [intOf]; omega⟩
          · obtain rfl : j = k := by omega
            clear c0
            go_wp2_with fail
            refine (g_step hb HL.out HT.out (F.nf, 0) (gI_c F) (fun h => by have h1 := h.1; have h2 := h.2.1; dsimp only at h1; omega) ob 1 (gp_c F ob)).mono ?_
            rintro e w7 ⟨rfl, ht⟩
            have hp7 : IsPass w7 pb := (ht.same.blk pb HPQ.out HPP.out).trans HPB.out
            have HA := Lib.hid (g_end H.out HE.out (by rw [HNF.out] at ht ⊢; exact ht)); clear ht
            have hpart := part_base w7 pb hp7
            have HP7 := Lib.hid hp7; clear hp7
            go_wp2_with fail
            obtain ⟨v2, l2, hac, -, -⟩ := HA.out
            refine (base_Object _ base ob F Q v2 l2 hac _ pb HP7.out _).mono ?_
            rintro e w8 ⟨rfl, k8⟩
            have K8 := Lib.hid k8; clear k8 hac
            go_wp2_with fail
            go_end0
            exact ⟨rfl, HA.out.kept K8.out hb⟩
      · have t3d : decide (0 < T3) = false := by simp [t3]
        have T3D := Lib.hid t3d; clear t3d
        have hE : gE F l = false := by unfold gE; rw [HNF.out, HT1.out, HT3.out, T3D.out]; rfl
        have HA : Hid (GTo w base ob F Q l w3) := Lib.hid ⟨v, l, H.out.kept K3.out, fun x _ => Or.inr ⟨Or.inr hE, rfl⟩, K3.out.below hb (by simp), fun g hg _ => K3.out.block g (H.out.fam.lt g hg) (by simp), fun _ => K3.out⟩
        have hpart := part_base w3 pb (HPB.out.kept K3.out (by simp))
        clear hE
        go_wp2_with fail
        refine (base_Object _ base ob F Q v l (H.out.kept K3.out) _ pb (HPB.out.kept K3.out (by simp)) _).mono ?_
        rintro e w8 ⟨rfl, k8⟩
        have K8 := Lib.hid k8; clear k8
        go_wp2_with fail
        go_end0
        exact ⟨rfl, HA.out.kept K8.out hb⟩

set_option maxRecDepth 100000 in
set_option maxHeartbeats 16000000 in
theorem fix_ob_1 (w : World) (base ob : Nat) (F : Gs) (Q : Nat → Prop) (v : Nat × Nat → Value) (l : Nat × Nat → List FE) (h : OB w base ob F Q v l) (hk : ∀ x, gI F x → Kinds (l x)) (hl : ∀ x, gI F x → clean (l x) = false → (l x).length ≤ 1048576) (hb : base ≤ w.heap.size) (pb : Nat) (hpb : IsPass w pb) (hpQ : Q pb) (hpp : ∀ x, gI F x → (gp F ob x).1 ≠ pb) (ctx : Value) (h1 : goTo l F.nf = true) :
    Calls Tryf.prog 17 #[.pointer (some ⟨pb, 0, none⟩), .iface 77 (.pointer (some ⟨pb, 0, none⟩)), .pointer (some ⟨ob, 0, none⟩), ctx] w fun e w' => e = .returned (.tuple #[]) ∧ GTo w base ob F Q l w' := by
  have G1 := Lib.hid h1; clear h1
  have c0 := h.c0
  obtain ⟨ml1, ml2, ml3⟩ := h.ml
  unfold maxLen at ml2
  obtain ⟨ka, kn, kc, hvc⟩ := (h.fam.fod (F.nf, 0) (gI_c F)).isSlice
  have cc := h.cc
  rw [hvc] at cc
  have FC := Lib.hid (h.fam.fod (F.nf, 0) (gI_c F))
  rw [hvc] at FC
  have H := Lib.hid h; clear h
  have HKD := Lib.hid hk; clear hk
  have HL := Lib.hid hl; clear hl
  have HPB := Lib.hid hpb; clear hpb
  have HPQ := Lib.hid hpQ; clear hpQ
  have HPP := Lib.hid hpp; clear hpp
  have CCl := Lib.hid cc
  obtain ⟨NF, hNF⟩ : ∃ m, F.nf = m := ⟨_, rfl⟩
  obtain ⟨FB, hFB⟩ : ∃ m, F.fb = m := ⟨_, rfl⟩
  obtain ⟨FCp, hFCp⟩ : ∃ m, F.cap = m := ⟨_, rfl⟩
  rw [hNF, hFB, hFCp] at c0
  rw [hNF, hFCp] at ml1
  rw [hFCp] at ml2
  rw [hNF] at ml3
  have C0 := Lib.hid c0
  have HCP := Lib.hid hFCp
  have HNF := Lib.hid hNF; clear hNF
  have HFB := Lib.hid hFB; clear hFB
  clear hvc cc hFCp
  go_enter Tryf.func17, Tryf.ntmps17
  go_wp2_with fail
  clear c0
  go_loopw [8, 17] (fun c i wr => ∃ k : Nat, k ≤ NF ∧ i = .int .i64 k ∧ c = .bool (goTo l k) ∧ Kept [] w wr) (fun _ i _ => NF - (intOf i).toNat)
  case atStart => exact ⟨0, Nat.zero_le _, rfl, rfl, Kept.refl _ _⟩
  case round =>
    obtain ⟨k, hk, rfl, rfl, hq⟩ := hrel
    have HQ := Lib.hid hq; clear hq
    by_cases hlt : k < NF
    · have hkn : k < F.nf := by rw [HNF.out]; exact hlt
      have hc := H.out.kept HQ.out
      obtain ⟨ua, un, uc, hu⟩ := (hc.fam.fod _ (gI_o hkn)).isSlice
      obtain ⟨ta, tn, tc, htt⟩ := (hc.fam.fod _ (gI_t hkn)).isSlice
      have FU := Lib.hid (hu ▸ hc.fam.fod _ (gI_o hkn))
      have hes := goTo_succ l k
      obtain ⟨L0, hL0⟩ : ∃ L0, goTo l k = L0 := ⟨_, rfl⟩
      rw [hL0] at hes ⊢
      clear hL0
      obtain ⟨U, hU⟩ : ∃ U, sumNL (l (k, 0)) = U := ⟨_, rfl⟩
      rw [hU] at hes
      have HES := Lib.hid hes; clear hes
      have HUU := Lib.hid hU; clear hU
      have KN := Lib.hid hkn
      have e0 := hc.st k 0 hkn ⟨by omega, by omega, by omega⟩
      have e1 := hc.st k 1 hkn ⟨by omega, by omega, by omega⟩
      have e4 := hc.st k 4 hkn ⟨by omega, by omega, by omega⟩
      have e5 := hc.st k 5 hkn ⟨by omega, by omega, by omega⟩
      have e6 := hc.st k 6 hkn ⟨by omega, by omega, by omega⟩
      have e7 := hc.st k 7 hkn ⟨by omega, by omega, by omega⟩
      have e8 := hc.st k 8 hkn ⟨by omega, by omega, by omega⟩
      have e9 := hc.st k 9 hkn ⟨by omega, by omega, by omega⟩
      have e10 := hc.st k 10 hkn ⟨by omega, by omega, by omega⟩
      have e11 := hc.st k 11 hkn ⟨by omega, by omega, by omega⟩
      have e12 := hc.st k 12 hkn ⟨by omega, by omega, by omega⟩
      have e13 := hc.st k 13 hkn ⟨by omega, by omega, by omega⟩
      have e14 := hc.st k 14 hkn ⟨by omega, by omega, by omega⟩
      have e15 := hc.st k 15 hkn ⟨by omega, by omega, by omega⟩
      have e16 := hc.st k 16 hkn ⟨by omega, by omega, by omega⟩
      have e17 := hc.st k 17 hkn ⟨by omega, by omega, by omega⟩
      rw [HFB.out] at e0 e1 e4 e5 e6 e7 e8 e9 e10 e11 e12 e13 e14 e15 e16 e17
      simp only [stG, varS, Nat.add_zero, List.getElem?_cons_succ, List.getElem?_cons_zero] at e0 e1 e4 e5 e6 e7 e8 e9 e10 e11 e12 e13 e14 e15 e16 e17
      obtain ⟨dd, hu1, hu2⟩ := Option.map_eq_some_iff.1 fld_row
      have HU1 := Lib.hid hu1; have HU2 := Lib.hid hu2; clear hu1 hu2
      rcases hc.kds k hkn with hs | hs | hs
      · skip
        have e2 := hc.ct k hkn (by omega)
        have e3 := hc.co k hkn (by omega)
        rw [htt, HFB.out] at e2
        rw [hu, HFB.out] at e3
        have he6 : e1G F k = .nilIface := by unfold e1G; rw [hs]; rfl
        rw [he6] at e6
        rw [hs] at e15
        obtain ⟨vs, hrg, hsz, hone, v15, v3, v6⟩ : ∃ vs : List Value, wr.rangeAt FB (k * 18) vs ∧ vs.length = 18 ∧ vs.toArray.all (·.oneCell') = true ∧ vs.toArray[15]? = some (.int .i64 1) ∧ vs.toArray[3]? = some (.slice ua un uc) ∧ vs.toArray[6]? = some (.nilIface) :=
          ⟨_, (rg_cons e0 (rg_cons e1 (rg_cons e2 (rg_cons e3 (rg_cons e4 (rg_cons e5 (rg_cons e6 (rg_cons e7 (rg_cons e8 (rg_cons e9 (rg_cons e10 (rg_cons e11 (rg_cons e12 (rg_cons e13 (rg_cons e14 (rg_cons e15 (rg_cons e16 (rg_cons e17 rg_nil)))))))))))))))))), rfl, all_oneCell_toArray (by simp [Value.oneCell']), rfl, rfl, rfl⟩
        have ka := fun o => HQ.out.alloc o
        have KA := Lib.hid ka; clear ka hs he6 hkn hc hu htt e0 e1 e2 e3 e4 e5 e6 e7 e8 e9 e10 e11 e12 e13 e14 e15 e16 e17
        have hst := run_storeCells_fld wr vs hsz hone
        have b15 := (cell_of_block (heap_alloc_new wr (.cells vs.toArray 76)) 15).trans v15
        have b3 := (cell_of_block (heap_alloc_new wr (.cells vs.toArray 76)) 3).trans v3
        have b6 := (cell_of_block (heap_alloc_new wr (.cells vs.toArray 76)) 6).trans v6
        have HRG := Lib.hid hrg; have HSZ := Lib.hid hsz; have B15 := Lib.hid b15; have B6 := Lib.hid b6; have B3 := Lib.hid b3; clear hrg hsz hone v15 v3 v6 b15 b6 b3
        go_wp2_with (refine wpList_load_mid rfl 76 _ rfl FB (k * 18) rfl vs dd HRG.out HU1.out HU2.out (by rw [HSZ.out]; exact fld_size) ?_)
        clear hst
        refine (openOf_own _ wr.heap.size 0 1 (by omega) B15.out).mono ?_
        rintro e wx ⟨rfl, rfl⟩
        have b3 := B3.out
        go_wp2_with fail
        refine (count_any _ base _ (l (k, 0)) (FU.out.kept ((Kept.refl [] wr).alloc _) (by simp)) (HKD.out _ (gI_o KN.out))).mono ?_
        rintro e w2 ⟨rfl, k2⟩
        rw [HUU.out]
        have K2 := Lib.hid ((KA.out _).trans k2); clear k2
        by_cases hU0 : 0 < U
        · go_wp2_with fail
          exact ⟨⟨k + 1, by omega, by go_num, by rw [HES.out]; simp [hU0], K2.out⟩, by simp [intOf]; omega⟩
        · go_wp2_with fail
          exact ⟨⟨k + 1, by omega, by go_num, by rw [HES.out, decide_eq_false (show ¬ 0 < U by omega)]; simp, K2.out⟩, by simp [intOf]; omega⟩
      · skip
        have e2 := hc.ct k hkn (by omega)
        have e3 := hc.co k hkn (by omega)
        rw [htt, HFB.out] at e2
        rw [hu, HFB.out] at e3
        have he6 : e1G F k = varS (F.y k) := by unfold e1G; rw [hs]; rfl
        rw [he6] at e6
        rw [hs] at e15
        obtain ⟨vs, hrg, hsz, hone, v15, v3, v6⟩ : ∃ vs : List Value, wr.rangeAt FB (k * 18) vs ∧ vs.length = 18 ∧ vs.toArray.all (·.oneCell') = true ∧ vs.toArray[15]? = some (.int .i64 2) ∧ vs.toArray[3]? = some (.slice ua un uc) ∧ vs.toArray[6]? = some (varS (F.y k)) :=
          ⟨_, (rg_cons e0 (rg_cons e1 (rg_cons e2 (rg_cons e3 (rg_cons e4 (rg_cons e5 (rg_cons e6 (rg_cons e7 (rg_cons e8 (rg_cons e9 (rg_cons e10 (rg_cons e11 (rg_cons e12 (rg_cons e13 (rg_cons e14 (rg_cons e15 (rg_cons e16 (rg_cons e17 rg_nil)))))))))))))))))), rfl, all_oneCell_toArray (by simp [Value.oneCell', varS]), rfl, rfl, rfl⟩
        have ka := fun o => HQ.out.alloc o
        have KA := Lib.hid ka; clear ka hs he6 hkn hc hu htt e0 e1 e2 e3 e4 e5 e6 e7 e8 e9 e10 e11 e12 e13 e14 e15 e16 e17
        have hst := run_storeCells_fld wr vs hsz hone
        have b15 := (cell_of_block (heap_alloc_new wr (.cells vs.toArray 76)) 15).trans v15
        have b3 := (cell_of_block (heap_alloc_new wr (.cells vs.toArray 76)) 3).trans v3
        have b6 := (cell_of_block (heap_alloc_new wr (.cells vs.toArray 76)) 6).trans v6
        have HRG := Lib.hid hrg; have HSZ := Lib.hid hsz; have B15 := Lib.hid b15; have B6 := Lib.hid b6; have B3 := Lib.hid b3; clear hrg hsz hone v15 v3 v6 b15 b6 b3
        go_wp2_with (refine wpList_load_mid rfl 76 _ rfl FB (k * 18) rfl vs dd HRG.out HU1.out HU2.out (by rw [HSZ.out]; exact fld_size) ?_)
        clear hst
        refine (openOf_own _ wr.heap.size 0 2 (by omega) B15.out).mono ?_
        rintro e wx ⟨rfl, rfl⟩
        have b3 := B3.out
        go_wp2_with fail
        refine (count_any _ base _ (l (k, 0)) (FU.out.kept ((Kept.refl [] wr).alloc _) (by simp)) (HKD.out _ (gI_o KN.out))).mono ?_
        rintro e w2 ⟨rfl, k2⟩
        rw [HUU.out]
        have K2 := Lib.hid ((KA.out _).trans k2); clear k2
        by_cases hU0 : 0 < U
        · go_wp2_with fail
          exact ⟨⟨k + 1, by omega, by go_num, by rw [HES.out]; simp [hU0], K2.out⟩, by simp [intOf]; omega⟩
        · go_wp2_with fail
          exact ⟨⟨k + 1, by omega, by go_num, by rw [HES.out, decide_eq_false (show ¬ 0 < U by omega)]; simp, K2.out⟩, by simp [intOf]; omega⟩
      · skip
        have e2 := hc.st k 2 hkn ⟨by omega, by omega, fun _ => hs⟩
        have e3 := hc.ct3 k hkn hs
        rw [HFB.out] at e2
        simp only [stG, List.getElem?_cons_succ, List.getElem?_cons_zero] at e2
        rw [htt, HFB.out] at e3
        have ey := (hc.cy k hkn hs).1
        rw [hu] at ey
        have EY := Lib.hid ey; clear ey
        have he6 : e1G F k = litS (F.y k) := by unfold e1G; rw [hs]; rfl
        rw [he6] at e6
        rw [hs] at e15
        obtain ⟨vs, hrg, hsz, hone, v15, v3, v6⟩ : ∃ vs : List Value, wr.rangeAt FB (k * 18) vs ∧ vs.length = 18 ∧ vs.toArray.all (·.oneCell') = true ∧ vs.toArray[15]? = some (.int .i64 3) ∧ vs.toArray[3]? = some (.slice ta tn tc) ∧ vs.toArray[6]? = some (litS (F.y k)) :=
          ⟨_, (rg_cons e0 (rg_cons e1 (rg_cons e2 (rg_cons e3 (rg_cons e4 (rg_cons e5 (rg_cons e6 (rg_cons e7 (rg_cons e8 (rg_cons e9 (rg_cons e10 (rg_cons e11 (rg_cons e12 (rg_cons e13 (rg_cons e14 (rg_cons e15 (rg_cons e16 (rg_cons e17 rg_nil)))))))))))))))))), rfl, all_oneCell_toArray (by simp [Value.oneCell', litS]), rfl, rfl, rfl⟩
        have ka := fun o => HQ.out.alloc o
        have KA := Lib.hid ka; clear ka hs he6 hkn hc hu htt e0 e1 e2 e3 e4 e5 e6 e7 e8 e9 e10 e11 e12 e13 e14 e15 e16 e17
        have hst := run_storeCells_fld wr vs hsz hone
        have b15 := (cell_of_block (heap_alloc_new wr (.cells vs.toArray 76)) 15).trans v15
        have b3 := (cell_of_block (heap_alloc_new wr (.cells vs.toArray 76)) 3).trans v3
        have b6 := (cell_of_block (heap_alloc_new wr (.cells vs.toArray 76)) 6).trans v6
        have HRG := Lib.hid hrg; have HSZ := Lib.hid hsz; have B15 := Lib.hid b15; have B6 := Lib.hid b6; have B3 := Lib.hid b3; clear hrg hsz hone v15 v3 v6 b15 b6 b3
        go_wp2_with (refine wpList_load_mid rfl 76 _ rfl FB (k * 18) rfl vs dd HRG.out HU1.out HU2.out (by rw [HSZ.out]; exact fld_size) ?_)
        clear hst
        refine (openOf_str _ wr.heap.size 0 (F.y k) B15.out B6.out).mono ?_
        rintro e wx ⟨rfl, rfl⟩
        have ey := fun o => (((Kept.refl [] wr).alloc o).cell EY.out (by simp))
        go_wp2_with fail
        refine (count_any _ base _ (l (k, 0)) (FU.out.kept ((Kept.refl [] wr).alloc _) (by simp)) (HKD.out _ (gI_o KN.out))).mono ?_
        rintro e w2 ⟨rfl, k2⟩
        rw [HUU.out]
        have K2 := Lib.hid ((KA.out _).trans k2); clear k2
        by_cases hU0 : 0 < U
        · go_wp2_with fail
          exact ⟨⟨k + 1, by omega, by go_num, by rw [HES.out]; simp [hU0], K2.out⟩, by simp [intOf]; omega⟩
        · go_wp2_with fail
          exact ⟨⟨k + 1, by omega, by go_num, by rw [HES.out, decide_eq_false (show ¬ 0 < U by omega)]; simp, K2.out⟩, by simp [intOf]; omega⟩
    · obtain rfl : k = NF := by omega
      have hT1 : goTo l k = true := by rw [← HNF.out]; exact G1.out
      rw [hT1]
      have HT1 := Lib.hid hT1; clear hT1
      have cc := HQ.out.cell CCl.out (by simp)
      go_wp2_with fail
      refine (count_any _ base _ (l (F.nf, 0)) (FC.out.kept HQ.out (by simp)) (HKD.out _ (gI_c F))).mono ?_
      rintro e w3 ⟨rfl, k3⟩
      have K3 := Lib.hid (HQ.out.trans k3); clear k3 cc
      rw [HNF.out]
      obtain ⟨T3, hT3⟩ : ∃ T, sumNL (l (k, 0)) = T := ⟨_, rfl⟩
      rw [hT3]
      have HT3 := Lib.hid hT3; clear hT3
      by_cases t3 : 0 < T3
      · have t3d : decide (0 < T3) = true := by simp [t3]
        have T3D := Lib.hid t3d; clear t3d
        have hE : gE F l = true := by unfold gE; rw [HNF.out, HT1.out, HT3.out, T3D.out]; rfl
        have HE := Lib.hid hE; clear hE
        have c0 := K3.out.cell C0.out (by simp)
        have h0 := Lib.hid (FamTI.start H.out.fam K3.out hb (gD F 0) (fun x _ h => by have := h.1; omega))
        go_wp2_with fail
        clear c0
        go_loopw [39] (fun i wr => ∃ j : Nat, j ≤ k ∧ i = .int .i64 j ∧ FamTI w base (gI F) (gp F ob) Q l (gD F j) wr) (fun i _ => k - (intOf i).toNat)
        case atStart => exact ⟨0, Nat.zero_le _, rfl, h0.out⟩
        case round =>
          clear h0
          obtain ⟨j, hj, rfl, ht⟩ := hrel
          have hcur : ∃ v' l', OB wr base ob F Q v' l' := by
            obtain ⟨v', l', f1, f2, f3, f4, f5⟩ := ht
            exact ⟨v', l', H.out.next f3 f1⟩
          obtain ⟨v', l', hcur⟩ := hcur
          have c0 := hcur.c0
          rw [HNF.out, HFB.out, HCP.out] at c0
          have HCUR := Lib.hid hcur; clear hcur
          have HT := Lib.hid ht; clear ht
          by_cases hjl : j < k
          · have hjn : j < F.nf := by rw [HNF.out]; exact hjl
            have i1 : (0 : Int) ≤ (j : Int) := by omega
            have i2 : (j : Int) < (k : Int) := by omega
            have hens : ∀ g o, gp F ob (j, 0) = (g, o) → ∀ wx, wx = wr → Calls Tryf.prog 23 #[.pointer (some ⟨g, o, none⟩)] wx fun e w' => e = .returned (.tuple #[]) ∧ FamTI w base (gI F) (gp F ob) Q l (gD F (j + 1)) w' := fun g o hg wx hwx => by
              subst hwx
              refine (g_step hb HL.out HT.out (j, 0) (gI_o hjn) (fun h => by have := h.1; dsimp only at this; omega) g o hg).mono ?_
              rintro e w' ⟨rfl, h⟩
              exact ⟨rfl, h.congr (fun x _ => gD_succ F hjn x)⟩
            have HENS := Lib.hid hens; clear hens
            have hop := gp_o hjn ob
            by_cases hs : F.kd j = 3
            · have e15 := (HCUR.out.of3 j hjn hs).c15
              have e6 := (HCUR.out.of3 j hjn hs).c6
              rw [if_pos hs] at hop
              rw [HFB.out] at e15 e6
              have HOP := Lib.hid hop
              have E15 := Lib.hid e15
              have E6 := Lib.hid e6
              clear hop hs e15 e6 hjn
              go_wp2_with fail
              refine (openOf_str _ FB (j * 18) (F.y j) E15.out E6.out).mono ?_
              rintro e wx ⟨rfl, rfl⟩
              go_wp2_with fail
              refine (HENS.out _ _ HOP.out _ rfl).mono ?_
              rintro e wy ⟨rfl, ht⟩
              have HTN := Lib.hid ht; clear ht
              go_wp2_with fail
              exact ⟨⟨j + 1, by omega, by go_num, HTN.out⟩, by simp [intOf]; omega⟩
            · have e15 : wr.cell? ⟨F.fb, j * 18 + 15, none⟩ = some (.int .i64 (F.kd j)) := HCUR.out.st j 15 hjn ⟨by omega, by omega, by omega⟩
              rw [if_neg hs] at hop
              rw [HFB.out] at e15 hop
              have HOP := Lib.hid hop
              have E15 := Lib.hid e15
              have HS3 := Lib.hid hs
              clear hop hs e15 hjn
              go_wp2_with fail
              refine (openOf_own _ FB (j * 18) _ HS3.out E15.out).mono ?_
              rintro e wx ⟨rfl, rfl⟩
              go_wp2_with fail
              refine (HENS.out _ _ HOP.out _ rfl).mono ?_
              rintro e wy ⟨rfl, ht⟩
              have HTN := Lib.hid ht; clear ht
              go_wp2_with fail
              exact ⟨⟨j + 1, by omega, by go_num, HTN.out⟩, by simp [intOf]; omega⟩
          · obtain rfl : j = k := by omega
            clear c0
            go_wp2_with fail
            refine (g_step hb HL.out HT.out (F.nf, 0) (gI_c F) (fun h => by have h1 := h.1; have h2 := h.2.1; dsimp only at h1; omega) ob 1 (gp_c F ob)).mono ?_
            rintro e w7 ⟨rfl, ht⟩
            have hp7 : IsPass w7 pb := (ht.same.blk pb HPQ.out HPP.out).trans HPB.out
            have HA := Lib.hid (g_end H.out HE.out (by rw [HNF.out] at ht ⊢; exact ht)); clear ht
            have hpart := part_base w7 pb hp7
            have HP7 := Lib.hid hp7; clear hp7
            go_wp2_with fail
            obtain ⟨v2, l2, hac, -, -⟩ := HA.out
            refine (base_Object _ base ob F Q v2 l2 hac _ pb HP7.out _).mono ?_
            rintro e w8 ⟨rfl, k8⟩
            have K8 := Lib.hid k8; clear k8 hac
            go_wp2_with fail
            go_end0
            exact ⟨rfl, HA.out.kept K8.out hb⟩
      · have t3d : decide (0 < T3) = false := by simp [t3]
        have T3D := Lib.hid t3d; clear t3d
        have hE : gE F l = true := by unfold gE; rw [HNF.out, HT1.out, HT3.out, T3D.out]; rfl
        have HE := Lib.hid hE; clear hE
        have c0 := K3.out.cell C0.out (by simp)
        have h0 := Lib.hid (FamTI.start H.out.fam K3.out hb (gD F 0) (fun x _ h => by have := h.1; omega))
        go_wp2_with fail
        clear c0
        go_loopw [39] (fun i wr => ∃ j : Nat, j ≤ k ∧ i = .int .i64 j ∧ FamTI w base (gI F) (gp F ob) Q l (gD F j) wr) (fun i _ => k - (intOf i).toNat)
        case atStart => exact ⟨0, Nat.zero_le _, rfl, h0.out⟩
        case round =>
          clear h0
          obtain ⟨j, hj, rfl, ht⟩ := hrel
          have hcur : ∃ v' l', OB wr base ob F Q v' l' := by
            obtain ⟨v', l', f1, f2, f3, f4, f5⟩ := ht
            exact ⟨v', l', H.out.next f3 f1⟩
          obtain ⟨v', l', hcur⟩ := hcur
          have c0 := hcur.c0
          rw [HNF.out, HFB.out, HCP.out] at c0
          have HCUR := Lib.hid hcur; clear hcur
          have HT := Lib.hid ht; clear ht
          by_cases hjl : j < k
          · have hjn : j < F.nf := by rw [HNF.out]; exact hjl
            have i1 : (0 : Int) ≤ (j : Int) := by omega
            have i2 : (j : Int) < (k : Int) := by omega
            have hens : ∀ g o, gp F ob (j, 0) = (g, o) → ∀ wx, wx = wr → Calls Tryf.prog 23 #[.pointer (some ⟨g, o, none⟩)] wx fun e w' => e = .returned (.tuple #[]) ∧ FamTI w base (gI F) (gp F ob) Q l (gD F (j + 1)) w' := fun g o hg wx hwx => by
              subst hwx
              refine (g_step hb HL.out HT.out (j, 0) (gI_o hjn) (fun h => by have := h.1; dsimp only at this; omega) g o hg).mono ?_
              rintro e w' ⟨rfl, h⟩
              exact ⟨rfl, h.congr (fun x _ => gD_succ F hjn x)⟩
            have HENS := Lib.hid hens; clear hens
            have hop := gp_o hjn ob
            by_cases hs : F.kd j = 3
            · have e15 := (HCUR.out.of3 j hjn hs).c15
              have e6 := (HCUR.out.of3 j hjn hs).c6
              rw [if_pos hs] at hop
              rw [HFB.out] at e15 e6
              have HOP := Lib.hid hop
              have E15 := Lib.hid e15
              have E6 := Lib.hid e6
              clear hop hs e15 e6 hjn
              go_wp2_with fail
              refine (openOf_str _ FB (j * 18) (F.y j) E15.out E6.out).mono ?_
              rintro e wx ⟨rfl, rfl⟩
              go_wp2_with fail
              refine (HENS.out _ _ HOP.out _ rfl).mono ?_
              rintro e wy ⟨rfl, ht⟩
              have HTN := Lib.hid ht; clear ht
              go_wp2_with fail
              exact ⟨⟨j + 1, by omega, by go_num, HTN.out⟩, by simp [intOf]; omega⟩
            · have e15 : wr.cell? ⟨F.fb, j * 18 + 15, none⟩ = some (.int .i64 (F.kd j)) := HCUR.out.st j 15 hjn ⟨by omega, by omega, by omega⟩
              rw [if_neg hs] at hop
              rw [HFB.out] at e15 hop
              have HOP := Lib.hid hop
              have E15 := Lib.hid e15
              have HS3 := Lib.hid hs
              clear hop hs e15 hjn
              go_wp2_with fail
              refine (openOf_own _ FB (j * 18) _ HS3.out E15.out).mono ?_
              rintro e wx ⟨rfl, rfl⟩
              go_wp2_with fail
              refine (HENS.out _ _ HOP.out _ rfl).mono ?_
              rintro e wy ⟨rfl, ht⟩
              have HTN := Lib.hid ht; clear ht
              go_wp2_with fail
              exact ⟨⟨j + 1, by omega, by go_num, HTN.out⟩, by simp [intOf]; omega⟩
          · obtain rfl : j = k := by omega
            clear c0
            go_wp2_with fail
            refine (g_step hb HL.out HT.out (F.nf, 0) (gI_c F) (fun h => by have h1 := h.1; have h2 := h.2.1; dsimp only at h1; omega) ob 1 (gp_c F ob)).mono ?_
            rintro e w7 ⟨rfl, ht⟩
            have hp7 : IsPass w7 pb := (ht.same.blk pb HPQ.out HPP.out).trans HPB.out
            have HA := Lib.hid (g_end H.out HE.out (by rw [HNF.out] at ht ⊢; exact ht)); clear ht
            have hpart := part_base w7 pb hp7
            have HP7 := Lib.hid hp7; clear hp7
            go_wp2_with fail
            obtain ⟨v2, l2, hac, -, -⟩ := HA.out
            refine (base_Object _ base ob F Q v2 l2 hac _ pb HP7.out _).mono ?_
            rintro e w8 ⟨rfl, k8⟩
            have K8 := Lib.hid k8; clear k8 hac
            go_wp2_with fail
            go_end0
            exact ⟨rfl, HA.out.kept K8.out hb⟩

theorem fix_Object (w : World) (base ob : Nat) (F : Gs) (Q : Nat → Prop) (v : Nat × Nat → Value) (l : Nat × Nat → List FE) (h : OB w base ob F Q v l) (hk : ∀ x, gI F x → Kinds (l x)) (hl : ∀ x, gI F x → clean (l x) = false → (l x).length ≤ 1048576) (hb : base ≤ w.heap.size) (pb : Nat) (hpb : IsPass w pb) (hpQ : Q pb) (hpp : ∀ x, gI F x → (gp F ob x).1 ≠ pb) (ctx : Value) :
    Calls Tryf.prog 17 #[.pointer (some ⟨pb, 0, none⟩), .iface 77 (.pointer (some ⟨pb, 0, none⟩)), .pointer (some ⟨ob, 0, none⟩), ctx] w fun e w' => e = .returned (.tuple #[]) ∧ GTo w base ob F Q l w' := by
  cases h1 : goTo l F.nf
  · exact fix_ob_0 w base ob F Q v l h hk hl hb pb hpb hpQ hpp ctx h1
  · exact fix_ob_1 w base ob F Q v l h hk hl hb pb hpb hpQ hpp ctx h1
end Go.Proofs.YtfacfgecnpeceaaFmt
