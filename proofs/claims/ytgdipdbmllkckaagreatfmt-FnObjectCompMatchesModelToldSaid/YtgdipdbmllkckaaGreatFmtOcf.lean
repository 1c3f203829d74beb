/- The contracts of FixNewlines.ObjectComp and of its exported name. -/
import Derived.Test.YtgdipdbmllkckaaGreatFmtOcn
import Derived.Deep.MidRow
import Derived.Deep.WholeRow
namespace Go.Proofs.YtgdipdbmllkckaaGreatFmt
open Go.ChangeShapes Go.WideShapes Go.ChangeAt Go.RowKit

theorem rg_nil {w : World} {b o : Nat} : w.rangeAt b o [] := fun j v h => by simp at h
theorem rg_cons {w : World} {b o : Nat} {x : Value} {xs : List Value} (h : w.cell? ⟨b, o, none⟩ = some x) (hs : w.rangeAt b (o + 1) xs) : w.rangeAt b o (x :: xs) := fun j v hv => by
  cases j with
  | zero => simp only [List.getElem?_cons_zero, Option.some.injEq] at hv; subst hv; exact h
  | succ j =>
    have := hs j v (by simpa using hv)
    rwa [show o + 1 + j = o + (j + 1) by omega] at this
set_option maxRecDepth 100000 in
theorem fld_size : (Tryz.prog.info? 74).map (·.size) = some 18 := by kernel_rfl
set_option maxRecDepth 100000 in
theorem fld_row : (Tryz.prog.underlying 74).map (·.isRow) = some true := by kernel_rfl
/-- The copy of a field into a new block. -/
theorem run_storeCells_fld (w : World) (vs : List Value) (hl : vs.length = 18) (h1 : vs.toArray.all (·.oneCell') = true) : (storeCells ⟨w.heap.size, 0, none⟩ vs).run Tryz.prog (w.alloc (.cells #[.pointer none, .pointer none, .slice none 0 0, .slice none 0 0, .slice none 0 0, .slice none 0 0, .nilIface, .nilIface, .nilIface, .pointer none, .string ⟨#[]⟩, .int .i64 0, .int .i64 0, .int .i64 0, .int .i64 0, .int .i64 0, .int .i64 0, .bool false] 74)) = .ok () (w.alloc (.cells vs.toArray 74)) :=
  run_storeCells_new w 74 #[.pointer none, .pointer none, .slice none 0 0, .slice none 0 0, .slice none 0 0, .slice none 0 0, .nilIface, .nilIface, .nilIface, .pointer none, .string ⟨#[]⟩, .int .i64 0, .int .i64 0, .int .i64 0, .int .i64 0, .int .i64 0, .int .i64 0, .bool false] vs.toArray (by rw [List.size_toArray, hl]; exact fld_size) (by rw [show vs.toArray.size = 18 from by simp [hl]]; rfl) h1

/-- Does one of the first k opening fodders count a line break? -/
def flTo (l : Nat × Nat → List FE) (n k : Nat) : Bool := (List.range k).any fun i => decide (0 < sumNL (l (n + 1, 2 * i)))
theorem flTo_succ (l : Nat × Nat → List FE) (n k : Nat) : flTo l n (k + 1) = (flTo l n k || decide (0 < sumNL (l (n + 1, 2 * k)))) := by
  unfold flTo
  rw [List.range_succ, List.any_append]
  simp
/-- The fodders that are ended. -/
def ocS (P : Pl) (n : Nat) (x : Nat × Nat) : Prop := P.In n x ∨ x = (n, 0) ∨ (x.1 = n + 1 ∧ x.2 % 2 = 0)
def ocD (n j : Nat) (x : Nat × Nat) : Prop := x.1 = n + 1 ∧ x.2 % 2 = 0 ∧ x.2 < 2 * j
theorem ocD_succ (n j : Nat) (x : Nat × Nat) : (ocD n j x ∨ x = (n + 1, 2 * j)) ↔ ocD n (j + 1) x := by
  obtain ⟨a, b⟩ := x
  simp only [ocD, Prod.mk.injEq]
  constructor
  · rintro (⟨h1, h2, h3⟩ | ⟨h1, h2⟩)
    · exact ⟨h1, h2, by omega⟩
    · exact ⟨h1, by omega, by omega⟩
  · rintro ⟨h1, h2, h3⟩
    by_cases hb : b < 2 * j
    · exact Or.inl ⟨h1, h2, hb⟩
    · exact Or.inr ⟨h1, by omega⟩
theorem oc_no (P : Pl) (n j : Nat) : ¬ downD P (ocD n j) n (n, 0) := by
  rintro (h | h)
  · have := h.1; dsimp only at this; omega
  · have := h.1; dsimp only at this; omega
def ocE (P : Pl) (F : Fls) (l : Nat × Nat → List FE) (n : Nat) : Bool := flTo l n F.nf || chTo l P.m n || decide (0 < sumNL (l (n, 0)))
/-- What FixNewlines.ObjectComp leaves. -/
def OCTo (w : World) (base nb n : Nat) (P : Pl) (F : Fls) (Q : Nat → Prop) (l : Nat × Nat → List FE) (w' : World) : Prop :=
  ∃ v' l', OCN w' base nb n P F Q v' l' ∧ (∀ x, ocI P n F x → (ocS P n x ∧ ocE P F l n = true ∧ Ens (l x) (l' x)) ∨ ((¬ ocS P n x ∨ ocE P F l n = false) ∧ l' x = l x)) ∧ Below base w w' ∧ ∀ g, Q g → (∀ x, ocI P n F x → (ocp P n nb F x).1 ≠ g) → w'.heap[g]? = w.heap[g]?
theorem oc_step {w0 w : World} {base nb n : Nat} {P : Pl} {F : Fls} {Q : Nat → Prop} {l : Nat × Nat → List FE} (hb : base ≤ w0.heap.size) (hl : ∀ x, ocI P n F x → clean (l x) = false → (l x).length ≤ 1048576) {D : Nat × Nat → Prop} (ht : FamTI w0 base (ocI P n F) (ocp P n nb F) Q l D w) (x : Nat × Nat) (hx : ocI P n F x) (hD : ¬ D x) (g o : Nat) (hg : ocp P n nb F x = (g, o)) :
    Calls Tryz.prog 36 #[.pointer (some ⟨g, o, none⟩)] w fun e w' => e = .returned (.tuple #[]) ∧ FamTI w0 base (ocI P n F) (ocp P n nb F) Q l (fun i => D i ∨ i = x) w' := by
  have := ensure_FamI w base (ocI P n F) x (ocp P n nb F) Q l D w0 ht hx hD (hl x hx) hb
  rw [hg] at this
  exact this
theorem oc_spec {w0 w : World} {base nb n j : Nat} {P : Pl} {F : Fls} {Q : Nat → Prop} {v : Nat × Nat → Value} {l : Nat × Nat → List FE} (h : OCN w0 base nb n P F Q v l) (hb : base ≤ w0.heap.size) (hl : ∀ x, ocI P n F x → clean (l x) = false → (l x).length ≤ 1048576) (ht : FamTI w0 base (ocI P n F) (ocp P n nb F) Q l (ocD n j) w) :
    Calls Tryz.prog 37 #[.pointer (some ⟨nb, 3, none⟩)] w fun e w' => e = .returned (.tuple #[]) ∧ FamTI w0 base (ocI P n F) (ocp P n nb F) Q l (downD P (ocD n j) n) w' := by
  have hpos := h.pos
  have he : EnsR (ocI P n F) (ocp P n nb F) Q n P l w0 base := ⟨fun x hx => ⟨Or.inl hx, ocp_in hx⟩, fun w' s => h.ch.same s h.fr h.hQ, hl, hb⟩
  have := ensureSp_any _ _ _ n P l w0 base he (ocD n j) (n - 1) (by omega) w ht (fun x hx e => by have := e.1; omega)
  rw [h.b, h.o, Nat.sub_add_cancel hpos] at this
  exact this
theorem oc_end {w0 w : World} {base nb n : Nat} {P : Pl} {F : Fls} {Q : Nat → Prop} {v : Nat × Nat → Value} {l : Nat × Nat → List FE} (h : OCN w0 base nb n P F Q v l) (hE : ocE P F l n = true) (ht : FamTI w0 base (ocI P n F) (ocp P n nb F) Q l (fun x => downD P (ocD n F.nf) n x ∨ x = (n, 0)) w) : OCTo w0 base nb n P F Q l w := by
  obtain ⟨v', l', f1, f2, f3, f4, f5⟩ := ht
  refine ⟨v', l', h.next f3 f1, fun x hx => ?_, f4, fun g hg hn => f3.blk g hg hn⟩
  rcases f2 x hx with ⟨a, b⟩ | ⟨a, b⟩
  · refine Or.inl ⟨?_, hE, b⟩
    rcases a with (a | a) | a
    · exact Or.inr (Or.inr ⟨a.1, a.2.1⟩)
    · exact Or.inl a
    · exact Or.inr (Or.inl a)
  · refine Or.inr ⟨Or.inl (fun s => a ?_), b⟩
    rcases s with s | s | s
    · exact Or.inl (Or.inr s)
    · exact Or.inr s
    · rcases hx with hx | hx | hx
      · exact Or.inl (Or.inr hx)
      · exact Or.inr hx
      · exact Or.inl (Or.inl ⟨s.1, s.2, hx.2⟩)
theorem OCTo.kept {w w' w'' : World} {base nb n : Nat} {P : Pl} {F : Fls} {Q : Nat → Prop} {l : Nat × Nat → List FE} (h : OCTo w base nb n P F Q l w') (q : Kept [] w' w'') (hb : base ≤ w.heap.size) : OCTo w base nb n P F Q l w'' := by
  obtain ⟨v', l', h1, h2, h3, h4⟩ := h
  exact ⟨v', l', h1.kept q, h2, h3.trans (q.below (Nat.le_trans hb h3.size) (by simp)), fun g hg hn => (q.block g (h1.fam.lt g hg) (by simp)).trans (h4 g hg hn)⟩

set_option maxRecDepth 100000 in
set_option maxHeartbeats 16000000 in
theorem fix_oc_00 (w : World) (base nb n : Nat) (P : Pl) (F : Fls) (Q : Nat → Prop) (v : Nat × Nat → Value) (l : Nat × Nat → List FE) (h : OCN w base nb n P F Q v l) (hk : ∀ x, ocI P n F x → Kinds (l x)) (hl : ∀ x, ocI P n F x → clean (l x) = false → (l x).length ≤ 1048576) (hb : base ≤ w.heap.size) (pb : Nat) (hpb : IsPass w pb) (hpQ : Q pb) (hpp : ∀ x, ocI P n F x → (ocp P n nb F x).1 ≠ pb) (ctx : Value) (h1 : flTo l n F.nf = false) (h2 : chTo l P.m n = false) :
    Calls Tryz.prog 27 #[.pointer (some ⟨pb, 0, none⟩), .iface 88 (.pointer (some ⟨pb, 0, none⟩)), .pointer (some ⟨nb, 0, none⟩), ctx] w fun e w' => e = .returned (.tuple #[]) ∧ OCTo w base nb n P F Q l w' := by
  have hpos := h.pos
  have G1 := Lib.hid h1; clear h1
  have G2 := Lib.hid h2; clear h2
  have c0 := h.c0
  obtain ⟨ml1, ml2, ml3⟩ := h.ml
  unfold maxLen at ml2
  have cf := h.chf hk
  obtain ⟨ka, kn, kc, hvc⟩ := (h.fam.fod (n, 0) (Or.inr (Or.inl rfl))).isSlice
  obtain ⟨va, vn, vc, hv⟩ := (cf.fod (n - 1, 0) ⟨by dsimp only; omega, Nat.zero_le _⟩).isSlice
  obtain ⟨po, hpo⟩ := P.out_ptr (n - 1)
  have cc := h.cc
  rw [hvc] at cc
  have d0 := cf.c0 (n - 1) (by omega)
  have d1 := h.ch.c1 (n - 1) (by omega)
  have d2 := h.ch.c2 (n - 1) (by omega)
  have d3 := h.ch.c3 (n - 1) (by omega)
  have d4 := h.ch.c4 (n - 1) (by omega)
  have d5 := h.ch.c5 (n - 1) (by omega)
  have d6 := h.ch.c6 (n - 1) (by omega)
  have hsh : ∀ w', Kept [] w w' → Calls Tryz.prog 35 #[P.lvl (v (n - 1, 0)) (n - 1)] w' (Bl (chTo l P.m n) w') := fun w' q => by
    have := should_any base n P v l (n - 1) (by omega) w' (h.ch.kept q) (cf.kept q)
    rwa [Nat.sub_add_cancel hpos] at this
  unfold Pl.lvl nulI at hsh
  unfold nulI at d4
  rw [h.b, h.o] at d0 d1 d2 d3 d4 d5 d6
  rw [hv] at d0 hsh
  rw [hpo] at d3 hsh
  obtain ⟨CM, hCM⟩ : ∃ m, P.m (n - 1) = m := ⟨_, rfl⟩
  obtain ⟨CA, hCA⟩ : ∃ m, P.ca (n - 1) = m := ⟨_, rfl⟩
  obtain ⟨CC, hCC⟩ : ∃ m, P.cc (n - 1) = m := ⟨_, rfl⟩
  obtain ⟨XE, hXE⟩ : ∃ m, P.xe (n - 1) = m := ⟨_, rfl⟩
  rw [hCM, hCA, hCC] at d2 hsh
  rw [hXE] at d4 hsh
  have HSH := Lib.hid hsh; clear hsh
  have FC := Lib.hid (h.fam.fod (n, 0) (Or.inr (Or.inl rfl)))
  rw [hvc] at FC
  have H := Lib.hid h; clear h
  have HKD := Lib.hid hk; clear hk
  have HL := Lib.hid hl; clear hl
  have HPB := Lib.hid hpb; clear hpb
  have HPQ := Lib.hid hpQ; clear hpQ
  have HPP := Lib.hid hpp; clear hpp
  have CCl := Lib.hid cc
  have D0 := Lib.hid d0
  have D1 := Lib.hid d1
  have D2 := Lib.hid d2
  have D3 := Lib.hid d3
  have D4 := Lib.hid d4
  have D5 := Lib.hid d5
  have D6 := Lib.hid d6
  obtain ⟨NF, hNF⟩ : ∃ m, F.nf = m := ⟨_, rfl⟩
  obtain ⟨FB, hFB⟩ : ∃ m, F.fb = m := ⟨_, rfl⟩
  obtain ⟨FCp, hFCp⟩ : ∃ m, F.cap = m := ⟨_, rfl⟩
  rw [hNF, hFB, hFCp] at c0
  rw [hNF, hFCp] at ml1
  rw [hFCp] at ml2
  rw [hNF] at ml3
  have C0 := Lib.hid c0
  have HCP := Lib.hid hFCp
  have HNF := Lib.hid hNF; clear hNF
  have HFB := Lib.hid hFB; clear hFB
  clear hvc hv hpo hCM hCA hCC hXE cf d0 d1 d2 d3 d4 d5 d6 cc hFCp
  go_enter Tryz.func27, Tryz.ntmps27
  go_wp2_with fail
  clear c0
  go_loopw [8, 17] (fun c i wr => ∃ k : Nat, k ≤ NF ∧ i = .int .i64 k ∧ c = .bool (flTo l n k) ∧ Kept [] w wr) (fun _ i _ => NF - (intOf i).toNat)
  case atStart => exact ⟨0, Nat.zero_le _, rfl, rfl, Kept.refl _ _⟩
  case round =>
    obtain ⟨k, hk, rfl, rfl, hq⟩ := hrel
    have HQ := Lib.hid hq; clear hq
    by_cases hlt : k < NF
    · have hkn : k < F.nf := by rw [HNF.out]; exact hlt
      have hc := H.out.kept HQ.out
      obtain ⟨ua, un, uc, hu⟩ := (hc.fam.fod _ (ocI_op hkn)).isSlice
      obtain ⟨ta, tn, tc, htt⟩ := (hc.fam.fod _ (ocI_ot hkn)).isSlice
      have FU := Lib.hid (hu ▸ hc.fam.fod _ (ocI_op hkn))
      have hes := flTo_succ l n k
      obtain ⟨L0, hL0⟩ : ∃ L0, flTo l n k = L0 := ⟨_, rfl⟩
      rw [hL0] at hes ⊢
      clear hL0
      obtain ⟨U, hU⟩ : ∃ U, sumNL (l (n + 1, 2 * k)) = U := ⟨_, rfl⟩
      rw [hU] at hes
      have HES := Lib.hid hes; clear hes
      have HUU := Lib.hid hU; clear hU
      have KN := Lib.hid hkn
      have e0 := hc.st k 0 hkn ⟨by omega, by omega, by omega⟩
      have e1 := hc.st k 1 hkn ⟨by omega, by omega, by omega⟩
      have e2 := hc.st k 2 hkn ⟨by omega, by omega, by omega⟩
      have e4 := hc.c4 k hkn
      have e5 := hc.st k 5 hkn ⟨by omega, by omega, by omega⟩
      have e6 := hc.st k 6 hkn ⟨by omega, by omega, by omega⟩
      have e7 := hc.st k 7 hkn ⟨by omega, by omega, by omega⟩
      have e8 := hc.st k 8 hkn ⟨by omega, by omega, by omega⟩
      have e9 := hc.st k 9 hkn ⟨by omega, by omega, by omega⟩
      have e10 := hc.st k 10 hkn ⟨by omega, by omega, by omega⟩
      have e11 := hc.st k 11 hkn ⟨by omega, by omega, by omega⟩
      have e12 := hc.st k 12 hkn ⟨by omega, by omega, by omega⟩
      have e13 := hc.st k 13 hkn ⟨by omega, by omega, by omega⟩
      have e14 := hc.st k 14 hkn ⟨by omega, by omega, by omega⟩
      have e15 := hc.st k 15 hkn ⟨by omega, by omega, by omega⟩
      have e16 := hc.st k 16 hkn ⟨by omega, by omega, by omega⟩
      have e17 := hc.st k 17 hkn ⟨by omega, by omega, by omega⟩
      rw [htt] at e4
      rw [HFB.out] at e0 e1 e2 e4 e5 e6 e7 e8 e9 e10 e11 e12 e13 e14 e15 e16 e17
      simp only [stC, nulI, litS, Nat.add_zero, List.getElem?_cons_succ, List.getElem?_cons_zero] at e0 e1 e2 e5 e6 e7 e8 e9 e10 e11 e12 e13 e14 e15 e16 e17
      obtain ⟨dd, hu1, hu2⟩ := Option.map_eq_some_iff.1 fld_row
      have HU1 := Lib.hid hu1; have HU2 := Lib.hid hu2; clear hu1 hu2
      cases hs : F.str k
      · skip
        have e3 := hc.c3 k hkn hs
        rw [hu, HFB.out] at e3
        rw [hs] at e6 e15
        simp only [Bool.false_eq_true, if_false] at e6 e15
        obtain ⟨vs, hrg, hsz, hone, v15, v3, v6⟩ : ∃ vs : List Value, wr.rangeAt FB (k * 18) vs ∧ vs.length = 18 ∧ vs.toArray.all (·.oneCell') = true ∧ vs.toArray[15]? = some (.int .i64 1) ∧ vs.toArray[3]? = some (.slice ua un uc) ∧ vs.toArray[6]? = some (.nilIface) :=
          ⟨_, (rg_cons e0 (rg_cons e1 (rg_cons e2 (rg_cons e3 (rg_cons e4 (rg_cons e5 (rg_cons e6 (rg_cons e7 (rg_cons e8 (rg_cons e9 (rg_cons e10 (rg_cons e11 (rg_cons e12 (rg_cons e13 (rg_cons e14 (rg_cons e15 (rg_cons e16 (rg_cons e17 rg_nil)))))))))))))))))), rfl, all_oneCell_toArray (by simp [Value.oneCell']), rfl, rfl, rfl⟩
        have ka := fun o => HQ.out.alloc o
        have KA := Lib.hid ka; clear ka hs hkn hc hu htt e0 e1 e2 e3 e4 e5 e6 e7 e8 e9 e10 e11 e12 e13 e14 e15 e16 e17
        have hst := run_storeCells_fld wr vs hsz hone
        have b15 := (cell_of_block (heap_alloc_new wr (.cells vs.toArray 74)) 15).trans v15
        have b3 := (cell_of_block (heap_alloc_new wr (.cells vs.toArray 74)) 3).trans v3
        have b6 := (cell_of_block (heap_alloc_new wr (.cells vs.toArray 74)) 6).trans v6
        have HRG := Lib.hid hrg; have HSZ := Lib.hid hsz; have B15 := Lib.hid b15; have B6 := Lib.hid b6; have B3 := Lib.hid b3; clear hrg hsz hone v15 v3 v6 b15 b6 b3
        go_wp2_with (refine wpList_load_mid rfl 74 _ rfl FB (k * 18) rfl vs dd HRG.out HU1.out HU2.out (by rw [HSZ.out]; exact fld_size) ?_)
        clear hst
        refine (openOf_id _ wr.heap.size 0 B15.out).mono ?_
        rintro e wx ⟨rfl, rfl⟩
        have b3 := B3.out
        go_wp2_with fail
        refine (count_any _ base _ (l (n + 1, 2 * k)) (FU.out.kept ((Kept.refl [] wr).alloc _) (by simp)) (HKD.out _ (ocI_op KN.out))).mono ?_
        rintro e w2 ⟨rfl, k2⟩
        rw [HUU.out]
        have K2 := Lib.hid ((KA.out _).trans k2); clear k2
        by_cases hU0 : 0 < U
        · go_wp2_with fail
          exact ⟨⟨k + 1, by omega, by go_num, by rw [HES.out]; simp [hU0], K2.out⟩, by simp [intOf]; omega⟩
        · go_wp2_with fail
          exact ⟨⟨k + 1, by omega, by go_num, by rw [HES.out, decide_eq_false (show ¬ 0 < U by omega)]; simp, K2.out⟩, by simp [intOf]; omega⟩
      · skip
        have e3 := hc.st k 3 hkn ⟨by omega, by omega, fun _ => hs⟩
        rw [HFB.out] at e3
        simp only [stC, List.getElem?_cons_succ, List.getElem?_cons_zero] at e3
        rw [hs] at e6 e15
        simp only [if_true] at e6 e15
        have ey := (hc.cy k hkn hs).1
        rw [hu] at ey
        have EY := Lib.hid ey; clear ey
        obtain ⟨vs, hrg, hsz, hone, v15, v3, v6⟩ : ∃ vs : List Value, wr.rangeAt FB (k * 18) vs ∧ vs.length = 18 ∧ vs.toArray.all (·.oneCell') = true ∧ vs.toArray[15]? = some (.int .i64 3) ∧ vs.toArray[3]? = some (.slice none 0 0) ∧ vs.toArray[6]? = some (litS (F.y k)) :=
          ⟨_, (rg_cons e0 (rg_cons e1 (rg_cons e2 (rg_cons e3 (rg_cons e4 (rg_cons e5 (rg_cons e6 (rg_cons e7 (rg_cons e8 (rg_cons e9 (rg_cons e10 (rg_cons e11 (rg_cons e12 (rg_cons e13 (rg_cons e14 (rg_cons e15 (rg_cons e16 (rg_cons e17 rg_nil)))))))))))))))))), rfl, all_oneCell_toArray (by simp [Value.oneCell']), rfl, rfl, rfl⟩
        have ka := fun o => HQ.out.alloc o
        have KA := Lib.hid ka; clear ka hs hkn hc hu htt e0 e1 e2 e3 e4 e5 e6 e7 e8 e9 e10 e11 e12 e13 e14 e15 e16 e17
        have hst := run_storeCells_fld wr vs hsz hone
        have b15 := (cell_of_block (heap_alloc_new wr (.cells vs.toArray 74)) 15).trans v15
        have b3 := (cell_of_block (heap_alloc_new wr (.cells vs.toArray 74)) 3).trans v3
        have b6 := (cell_of_block (heap_alloc_new wr (.cells vs.toArray 74)) 6).trans v6
        have HRG := Lib.hid hrg; have HSZ := Lib.hid hsz; have B15 := Lib.hid b15; have B6 := Lib.hid b6; have B3 := Lib.hid b3; clear hrg hsz hone v15 v3 v6 b15 b6 b3
        go_wp2_with (refine wpList_load_mid rfl 74 _ rfl FB (k * 18) rfl vs dd HRG.out HU1.out HU2.out (by rw [HSZ.out]; exact fld_size) ?_)
        clear hst
        refine (openOf_str _ wr.heap.size 0 (F.y k) B15.out B6.out).mono ?_
        rintro e wx ⟨rfl, rfl⟩
        have ey := fun o => (((Kept.refl [] wr).alloc o).cell EY.out (by simp))
        go_wp2_with fail
        refine (count_any _ base _ (l (n + 1, 2 * k)) (FU.out.kept ((Kept.refl [] wr).alloc _) (by simp)) (HKD.out _ (ocI_op KN.out))).mono ?_
        rintro e w2 ⟨rfl, k2⟩
        rw [HUU.out]
        have K2 := Lib.hid ((KA.out _).trans k2); clear k2
        by_cases hU0 : 0 < U
        · go_wp2_with fail
          exact ⟨⟨k + 1, by omega, by go_num, by rw [HES.out]; simp [hU0], K2.out⟩, by simp [intOf]; omega⟩
        · go_wp2_with fail
          exact ⟨⟨k + 1, by omega, by go_num, by rw [HES.out, decide_eq_false (show ¬ 0 < U by omega)]; simp, K2.out⟩, by simp [intOf]; omega⟩
    · obtain rfl : k = NF := by omega
      have hT1 : flTo l n k = false := by rw [← HNF.out]; exact G1.out
      rw [hT1]
      have HT1 := Lib.hid hT1; clear hT1
      have d0 := HQ.out.cell D0.out (by simp)
      have d1 := HQ.out.cell D1.out (by simp)
      have d2 := HQ.out.cell D2.out (by simp)
      have d3 := HQ.out.cell D3.out (by simp)
      have d4 := HQ.out.cell D4.out (by simp)
      have d5 := HQ.out.cell D5.out (by simp)
      have d6 := HQ.out.cell D6.out (by simp)
      go_wp2_with fail
      refine (HSH.out _ HQ.out).mono ?_
      rintro e w2 ⟨rfl, k2⟩
      have K2 := Lib.hid (HQ.out.trans k2); clear k2 d0 d1 d2 d3 d4 d5 d6
      have HT2 := G2
      rw [G2.out]
      have cc := K2.out.cell CCl.out (by simp)
      go_wp2_with fail
      refine (count_any _ base _ (l (n, 0)) (FC.out.kept K2.out (by simp)) (HKD.out _ (Or.inr (Or.inl rfl)))).mono ?_
      rintro e w3 ⟨rfl, k3⟩
      have K3 := Lib.hid (K2.out.trans k3); clear k3 cc
      obtain ⟨T3, hT3⟩ : ∃ T, sumNL (l (n, 0)) = T := ⟨_, rfl⟩
      rw [hT3]
      have HT3 := Lib.hid hT3; clear hT3
      by_cases t3 : 0 < T3
      · have t3d : decide (0 < T3) = true := by simp [t3]
        have T3D := Lib.hid t3d; clear t3d
        have hE : ocE P F l n = true := by unfold ocE; rw [HNF.out, HT1.out, HT2.out, HT3.out, T3D.out]; rfl
        have HE := Lib.hid hE; clear hE
        have c0 := K3.out.cell C0.out (by simp)
        have h0 := Lib.hid (FamTI.start H.out.fam K3.out hb (ocD n 0) (fun x _ h => by have := h.2.2; omega))
        go_wp2_with fail
        clear c0
        go_loopw [44] (fun i wr => ∃ j : Nat, j ≤ k ∧ i = .int .i64 j ∧ FamTI w base (ocI P n F) (ocp P n nb F) Q l (ocD n j) wr) (fun i _ => k - (intOf i).toNat)
        case atStart => exact ⟨0, Nat.zero_le _, rfl, h0.out⟩
        case round =>
          clear h0
          obtain ⟨j, hj, rfl, ht⟩ := hrel
          have hcur : ∃ v' l', OCN wr base nb n P F Q v' l' := by
            obtain ⟨v', l', f1, f2, f3, f4, f5⟩ := ht
            exact ⟨v', l', H.out.next f3 f1⟩
          obtain ⟨v', l', hcur⟩ := hcur
          have c0 := hcur.c0
          rw [HNF.out, HFB.out, HCP.out] at c0
          have HCUR := Lib.hid hcur; clear hcur
          have HT := Lib.hid ht; clear ht
          by_cases hjl : j < k
          · have hjn : j < F.nf := by rw [HNF.out]; exact hjl
            have i1 : (0 : Int) ≤ (j : Int) := by omega
            have i2 : (j : Int) < (k : Int) := by omega
            have hens : ∀ g o, ocp P n nb F (n + 1, 2 * j) = (g, o) → ∀ wx, wx = wr → Calls Tryz.prog 36 #[.pointer (some ⟨g, o, none⟩)] wx fun e w' => e = .returned (.tuple #[]) ∧ FamTI w base (ocI P n F) (ocp P n nb F) Q l (ocD n (j + 1)) w' := fun g o hg wx hwx => by
              subst hwx
              refine (oc_step hb HL.out HT.out (n + 1, 2 * j) (ocI_op hjn) (fun h => by have := h.2.2; dsimp only at this; omega) g o hg).mono ?_
              rintro e w' ⟨rfl, h⟩
              exact ⟨rfl, h.congr (fun x _ => ocD_succ n j x)⟩
            have HENS := Lib.hid hens; clear hens
            have hop := ocp_op P n nb F j
            cases hs : F.str j
            · have e15 := (HCUR.out.ofl_id j hjn hs).c15
              rw [hs] at hop
              simp only [Bool.false_eq_true, if_false] at hop
              rw [HFB.out] at e15 hop
              have HOP := Lib.hid hop
              have E15 := Lib.hid e15
              clear hop hs e15 hjn
              go_wp2_with fail
              refine (openOf_id _ FB (j * 18) E15.out).mono ?_
              rintro e wx ⟨rfl, rfl⟩
              go_wp2_with fail
              refine (HENS.out _ _ HOP.out _ rfl).mono ?_
              rintro e wy ⟨rfl, ht⟩
              have HTN := Lib.hid ht; clear ht
              go_wp2_with fail
              exact ⟨⟨j + 1, by omega, by go_num, HTN.out⟩, by simp [intOf]; omega⟩
            · have e15 := (HCUR.out.ofl_str j hjn hs).c15
              have e6 := (HCUR.out.ofl_str j hjn hs).c6
              rw [hs] at hop
              simp only [if_true] at hop
              rw [HFB.out] at e15 e6
              have HOP := Lib.hid hop
              have E15 := Lib.hid e15
              have E6 := Lib.hid e6
              clear hop hs e15 e6 hjn
              go_wp2_with fail
              refine (openOf_str _ FB (j * 18) (F.y j) E15.out E6.out).mono ?_
              rintro e wx ⟨rfl, rfl⟩
              go_wp2_with fail
              refine (HENS.out _ _ HOP.out _ rfl).mono ?_
              rintro e wy ⟨rfl, ht⟩
              have HTN := Lib.hid ht; clear ht
              go_wp2_with fail
              exact ⟨⟨j + 1, by omega, by go_num, HTN.out⟩, by simp [intOf]; omega⟩
          · obtain rfl : j = k := by omega
            clear c0
            go_wp2_with fail
            refine (oc_spec H.out hb HL.out HT.out).mono ?_
            rintro e w6 ⟨rfl, ht⟩
            have HT6 := Lib.hid ht; clear ht HT
            go_wp2_with fail
            refine (oc_step hb HL.out HT6.out (n, 0) (Or.inr (Or.inl rfl)) (oc_no P n _) nb 2 (ocp_c P n nb F)).mono ?_
            rintro e w7 ⟨rfl, ht⟩
            have hp7 : IsPass w7 pb := (ht.same.blk pb HPQ.out HPP.out).trans HPB.out
            have HA := Lib.hid (oc_end H.out HE.out (by rw [HNF.out]; exact ht)); clear ht HT6
            have hpart := part_base w7 pb hp7
            have HP7 := Lib.hid hp7; clear hp7
            go_wp2_with fail
            obtain ⟨v2, l2, hac, hens, -⟩ := HA.out
            refine (base_ObjectComp _ base nb n P F Q v2 l2 hac (fun x hx => by
              rcases hens x hx with ⟨_, _, a⟩ | ⟨_, a⟩
              · exact a.kinds (HKD.out x hx)
              · rw [a]; exact HKD.out x hx) _ pb HP7.out _).mono ?_
            rintro e w8 ⟨rfl, k8⟩
            have K8 := Lib.hid k8; clear k8 hac hens
            go_wp2_with fail
            go_end0
            exact ⟨rfl, HA.out.kept K8.out hb⟩
      · have t3d : decide (0 < T3) = false := by simp [t3]
        have T3D := Lib.hid t3d; clear t3d
        have hE : ocE P F l n = false := by unfold ocE; rw [HNF.out, HT1.out, HT2.out, HT3.out, T3D.out]; rfl
        have HA : Hid (OCTo w base nb n P F Q l w3) := Lib.hid ⟨v, l, H.out.kept K3.out, fun x _ => Or.inr ⟨Or.inr hE, rfl⟩, K3.out.below hb (by simp), fun g hg _ => K3.out.block g (H.out.fam.lt g hg) (by simp)⟩
        have hpart := part_base w3 pb (HPB.out.kept K3.out (by simp))
        clear hE
        go_wp2_with fail
        refine (base_ObjectComp _ base nb n P F Q v l (H.out.kept K3.out) HKD.out _ pb (HPB.out.kept K3.out (by simp)) _).mono ?_
        rintro e w8 ⟨rfl, k8⟩
        have K8 := Lib.hid k8; clear k8
        go_wp2_with fail
        go_end0
        exact ⟨rfl, HA.out.kept K8.out hb⟩

set_option maxRecDepth 100000 in
set_option maxHeartbeats 16000000 in
theorem fix_oc_01 (w : World) (base nb n : Nat) (P : Pl) (F : Fls) (Q : Nat → Prop) (v : Nat × Nat → Value) (l : Nat × Nat → List FE) (h : OCN w base nb n P F Q v l) (hk : ∀ x, ocI P n F x → Kinds (l x)) (hl : ∀ x, ocI P n F x → clean (l x) = false → (l x).length ≤ 1048576) (hb : base ≤ w.heap.size) (pb : Nat) (hpb : IsPass w pb) (hpQ : Q pb) (hpp : ∀ x, ocI P n F x → (ocp P n nb F x).1 ≠ pb) (ctx : Value) (h1 : flTo l n F.nf = false) (h2 : chTo l P.m n = true) :
    Calls Tryz.prog 27 #[.pointer (some ⟨pb, 0, none⟩), .iface 88 (.pointer (some ⟨pb, 0, none⟩)), .pointer (some ⟨nb, 0, none⟩), ctx] w fun e w' => e = .returned (.tuple #[]) ∧ OCTo w base nb n P F Q l w' := by
  have hpos := h.pos
  have G1 := Lib.hid h1; clear h1
  have G2 := Lib.hid h2; clear h2
  have c0 := h.c0
  obtain ⟨ml1, ml2, ml3⟩ := h.ml
  unfold maxLen at ml2
  have cf := h.chf hk
  obtain ⟨ka, kn, kc, hvc⟩ := (h.fam.fod (n, 0) (Or.inr (Or.inl rfl))).isSlice
  obtain ⟨va, vn, vc, hv⟩ := (cf.fod (n - 1, 0) ⟨by dsimp only; omega, Nat.zero_le _⟩).isSlice
  obtain ⟨po, hpo⟩ := P.out_ptr (n - 1)
  have cc := h.cc
  rw [hvc] at cc
  have d0 := cf.c0 (n - 1) (by omega)
  have d1 := h.ch.c1 (n - 1) (by omega)
  have d2 := h.ch.c2 (n - 1) (by omega)
  have d3 := h.ch.c3 (n - 1) (by omega)
  have d4 := h.ch.c4 (n - 1) (by omega)
  have d5 := h.ch.c5 (n - 1) (by omega)
  have d6 := h.ch.c6 (n - 1) (by omega)
  have hsh : ∀ w', Kept [] w w' → Calls Tryz.prog 35 #[P.lvl (v (n - 1, 0)) (n - 1)] w' (Bl (chTo l P.m n) w') := fun w' q => by
    have := should_any base n P v l (n - 1) (by omega) w' (h.ch.kept q) (cf.kept q)
    rwa [Nat.sub_add_cancel hpos] at this
  unfold Pl.lvl nulI at hsh
  unfold nulI at d4
  rw [h.b, h.o] at d0 d1 d2 d3 d4 d5 d6
  rw [hv] at d0 hsh
  rw [hpo] at d3 hsh
  obtain ⟨CM, hCM⟩ : ∃ m, P.m (n - 1) = m := ⟨_, rfl⟩
  obtain ⟨CA, hCA⟩ : ∃ m, P.ca (n - 1) = m := ⟨_, rfl⟩
  obtain ⟨CC, hCC⟩ : ∃ m, P.cc (n - 1) = m := ⟨_, rfl⟩
  obtain ⟨XE, hXE⟩ : ∃ m, P.xe (n - 1) = m := ⟨_, rfl⟩
  rw [hCM, hCA, hCC] at d2 hsh
  rw [hXE] at d4 hsh
  have HSH := Lib.hid hsh; clear hsh
  have FC := Lib.hid (h.fam.fod (n, 0) (Or.inr (Or.inl rfl)))
  rw [hvc] at FC
  have H := Lib.hid h; clear h
  have HKD := Lib.hid hk; clear hk
  have HL := Lib.hid hl; clear hl
  have HPB := Lib.hid hpb; clear hpb
  have HPQ := Lib.hid hpQ; clear hpQ
  have HPP := Lib.hid hpp; clear hpp
  have CCl := Lib.hid cc
  have D0 := Lib.hid d0
  have D1 := Lib.hid d1
  have D2 := Lib.hid d2
  have D3 := Lib.hid d3
  have D4 := Lib.hid d4
  have D5 := Lib.hid d5
  have D6 := Lib.hid d6
  obtain ⟨NF, hNF⟩ : ∃ m, F.nf = m := ⟨_, rfl⟩
  obtain ⟨FB, hFB⟩ : ∃ m, F.fb = m := ⟨_, rfl⟩
  obtain ⟨FCp, hFCp⟩ : ∃ m, F.cap = m := ⟨_, rfl⟩
  rw [hNF, hFB, hFCp] at c0
  rw [hNF, hFCp] at ml1
  rw [hFCp] at ml2
  rw [hNF] at ml3
  have C0 := Lib.hid c0
  have HCP := Lib.hid hFCp
  have HNF := Lib.hid hNF; clear hNF
  have HFB := Lib.hid hFB; clear hFB
  clear hvc hv hpo hCM hCA hCC hXE cf d0 d1 d2 d3 d4 d5 d6 cc hFCp
  go_enter Tryz.func27, Tryz.ntmps27
  go_wp2_with fail
  clear c0
  go_loopw [8, 17] (fun c i wr => ∃ k : Nat, k ≤ NF ∧ i = .int .i64 k ∧ c = .bool (flTo l n k) ∧ Kept [] w wr) (fun _ i _ => NF - (intOf i).toNat)
  case atStart => exact ⟨0, Nat.zero_le _, rfl, rfl, Kept.refl _ _⟩
  case round =>
    obtain ⟨k, hk, rfl, rfl, hq⟩ := hrel
    have HQ := Lib.hid hq; clear hq
    by_cases hlt : k < NF
    · have hkn : k < F.nf := by rw [HNF.out]; exact hlt
      have hc := H.out.kept HQ.out
      obtain ⟨ua, un, uc, hu⟩ := (hc.fam.fod _ (ocI_op hkn)).isSlice
      obtain ⟨ta, tn, tc, htt⟩ := (hc.fam.fod _ (ocI_ot hkn)).isSlice
      have FU := Lib.hid (hu ▸ hc.fam.fod _ (ocI_op hkn))
      have hes := flTo_succ l n k
      obtain ⟨L0, hL0⟩ : ∃ L0, flTo l n k = L0 := ⟨_, rfl⟩
      rw [hL0] at hes ⊢
      clear hL0
      obtain ⟨U, hU⟩ : ∃ U, sumNL (l (n + 1, 2 * k)) = U := ⟨_, rfl⟩
      rw [hU] at hes
      have HES := Lib.hid hes; clear hes
      have HUU := Lib.hid hU; clear hU
      have KN := Lib.hid hkn
      have e0 := hc.st k 0 hkn ⟨by omega, by omega, by omega⟩
      have e1 := hc.st k 1 hkn ⟨by omega, by omega, by omega⟩
      have e2 := hc.st k 2 hkn ⟨by omega, by omega, by omega⟩
      have e4 := hc.c4 k hkn
      have e5 := hc.st k 5 hkn ⟨by omega, by omega, by omega⟩
      have e6 := hc.st k 6 hkn ⟨by omega, by omega, by omega⟩
      have e7 := hc.st k 7 hkn ⟨by omega, by omega, by omega⟩
      have e8 := hc.st k 8 hkn ⟨by omega, by omega, by omega⟩
      have e9 := hc.st k 9 hkn ⟨by omega, by omega, by omega⟩
      have e10 := hc.st k 10 hkn ⟨by omega, by omega, by omega⟩
      have e11 := hc.st k 11 hkn ⟨by omega, by omega, by omega⟩
      have e12 := hc.st k 12 hkn ⟨by omega, by omega, by omega⟩
      have e13 := hc.st k 13 hkn ⟨by omega, by omega, by omega⟩
      have e14 := hc.st k 14 hkn ⟨by omega, by omega, by omega⟩
      have e15 := hc.st k 15 hkn ⟨by omega, by omega, by omega⟩
      have e16 := hc.st k 16 hkn ⟨by omega, by omega, by omega⟩
      have e17 := hc.st k 17 hkn ⟨by omega, by omega, by omega⟩
      rw [htt] at e4
      rw [HFB.out] at e0 e1 e2 e4 e5 e6 e7 e8 e9 e10 e11 e12 e13 e14 e15 e16 e17
      simp only [stC, nulI, litS, Nat.add_zero, List.getElem?_cons_succ, List.getElem?_cons_zero] at e0 e1 e2 e5 e6 e7 e8 e9 e10 e11 e12 e13 e14 e15 e16 e17
      obtain ⟨dd, hu1, hu2⟩ := Option.map_eq_some_iff.1 fld_row
      have HU1 := Lib.hid hu1; have HU2 := Lib.hid hu2; clear hu1 hu2
      cases hs : F.str k
      · skip
        have e3 := hc.c3 k hkn hs
        rw [hu, HFB.out] at e3
        rw [hs] at e6 e15
        simp only [Bool.false_eq_true, if_false] at e6 e15
        obtain ⟨vs, hrg, hsz, hone, v15, v3, v6⟩ : ∃ vs : List Value, wr.rangeAt FB (k * 18) vs ∧ vs.length = 18 ∧ vs.toArray.all (·.oneCell') = true ∧ vs.toArray[15]? = some (.int .i64 1) ∧ vs.toArray[3]? = some (.slice ua un uc) ∧ vs.toArray[6]? = some (.nilIface) :=
          ⟨_, (rg_cons e0 (rg_cons e1 (rg_cons e2 (rg_cons e3 (rg_cons e4 (rg_cons e5 (rg_cons e6 (rg_cons e7 (rg_cons e8 (rg_cons e9 (rg_cons e10 (rg_cons e11 (rg_cons e12 (rg_cons e13 (rg_cons e14 (rg_cons e15 (rg_cons e16 (rg_cons e17 rg_nil)))))))))))))))))), rfl, all_oneCell_toArray (by simp [Value.oneCell']), rfl, rfl, rfl⟩
        have ka := fun o => HQ.out.alloc o
        have KA := Lib.hid ka; clear ka hs hkn hc hu htt e0 e1 e2 e3 e4 e5 e6 e7 e8 e9 e10 e11 e12 e13 e14 e15 e16 e17
        have hst := run_storeCells_fld wr vs hsz hone
        have b15 := (cell_of_block (heap_alloc_new wr (.cells vs.toArray 74)) 15).trans v15
        have b3 := (cell_of_block (heap_alloc_new wr (.cells vs.toArray 74)) 3).trans v3
        have b6 := (cell_of_block (heap_alloc_new wr (.cells vs.toArray 74)) 6).trans v6
        have HRG := Lib.hid hrg; have HSZ := Lib.hid hsz; have B15 := Lib.hid b15; have B6 := Lib.hid b6; have B3 := Lib.hid b3; clear hrg hsz hone v15 v3 v6 b15 b6 b3
        go_wp2_with (refine wpList_load_mid rfl 74 _ rfl FB (k * 18) rfl vs dd HRG.out HU1.out HU2.out (by rw [HSZ.out]; exact fld_size) ?_)
        clear hst
        refine (openOf_id _ wr.heap.size 0 B15.out).mono ?_
        rintro e wx ⟨rfl, rfl⟩
        have b3 := B3.out
        go_wp2_with fail
        refine (count_any _ base _ (l (n + 1, 2 * k)) (FU.out.kept ((Kept.refl [] wr).alloc _) (by simp)) (HKD.out _ (ocI_op KN.out))).mono ?_
        rintro e w2 ⟨rfl, k2⟩
        rw [HUU.out]
        have K2 := Lib.hid ((KA.out _).trans k2); clear k2
        by_cases hU0 : 0 < U
        · go_wp2_with fail
          exact ⟨⟨k + 1, by omega, by go_num, by rw [HES.out]; simp [hU0], K2.out⟩, by simp [intOf]; omega⟩
        · go_wp2_with fail
          exact ⟨⟨k + 1, by omega, by go_num, by rw [HES.out, decide_eq_false (show ¬ 0 < U by omega)]; simp, K2.out⟩, by simp [intOf]; omega⟩
      · skip
        have e3 := hc.st k 3 hkn ⟨by omega, by omega, fun _ => hs⟩
        rw [HFB.out] at e3
        simp only [stC, List.getElem?_cons_succ, List.getElem?_cons_zero] at e3
        rw [hs] at e6 e15
        simp only [if_true] at e6 e15
        have ey := (hc.cy k hkn hs).1
        rw [hu] at ey
        have EY := Lib.hid ey; clear ey
        obtain ⟨vs, hrg, hsz, hone, v15, v3, v6⟩ : ∃ vs : List Value, wr.rangeAt FB (k * 18) vs ∧ vs.length = 18 ∧ vs.toArray.all (·.oneCell') = true ∧ vs.toArray[15]? = some (.int .i64 3) ∧ vs.toArray[3]? = some (.slice none 0 0) ∧ vs.toArray[6]? = some (litS (F.y k)) :=
          ⟨_, (rg_cons e0 (rg_cons e1 (rg_cons e2 (rg_cons e3 (rg_cons e4 (rg_cons e5 (rg_cons e6 (rg_cons e7 (rg_cons e8 (rg_cons e9 (rg_cons e10 (rg_cons e11 (rg_cons e12 (rg_cons e13 (rg_cons e14 (rg_cons e15 (rg_cons e16 (rg_cons e17 rg_nil)))))))))))))))))), rfl, all_oneCell_toArray (by simp [Value.oneCell']), rfl, rfl, rfl⟩
        have ka := fun o => HQ.out.alloc o
        have KA := Lib.hid ka; clear ka hs hkn hc hu htt e0 e1 e2 e3 e4 e5 e6 e7 e8 e9 e10 e11 e12 e13 e14 e15 e16 e17
        have hst := run_storeCells_fld wr vs hsz hone
        have b15 := (cell_of_block (heap_alloc_new wr (.cells vs.toArray 74)) 15).trans v15
        have b3 := (cell_of_block (heap_alloc_new wr (.cells vs.toArray 74)) 3).trans v3
        have b6 := (cell_of_block (heap_alloc_new wr (.cells vs.toArray 74)) 6).trans v6
        have HRG := Lib.hid hrg; have HSZ := Lib.hid hsz; have B15 := Lib.hid b15; have B6 := Lib.hid b6; have B3 := Lib.hid b3; clear hrg hsz hone v15 v3 v6 b15 b6 b3
        go_wp2_with (refine wpList_load_mid rfl 74 _ rfl FB (k * 18) rfl vs dd HRG.out HU1.out HU2.out (by rw [HSZ.out]; exact fld_size) ?_)
        clear hst
        refine (openOf_str _ wr.heap.size 0 (F.y k) B15.out B6.out).mono ?_
        rintro e wx ⟨rfl, rfl⟩
        have ey := fun o => (((Kept.refl [] wr).alloc o).cell EY.out (by simp))
        go_wp2_with fail
        refine (count_any _ base _ (l (n + 1, 2 * k)) (FU.out.kept ((Kept.refl [] wr).alloc _) (by simp)) (HKD.out _ (ocI_op KN.out))).mono ?_
        rintro e w2 ⟨rfl, k2⟩
        rw [HUU.out]
        have K2 := Lib.hid ((KA.out _).trans k2); clear k2
        by_cases hU0 : 0 < U
        · go_wp2_with fail
          exact ⟨⟨k + 1, by omega, by go_num, by rw [HES.out]; simp [hU0], K2.out⟩, by simp [intOf]; omega⟩
        · go_wp2_with fail
          exact ⟨⟨k + 1, by omega, by go_num, by rw [HES.out, decide_eq_false (show ¬ 0 < U by omega)]; simp, K2.out⟩, by simp [intOf]; omega⟩
    · obtain rfl : k = NF := by omega
      have hT1 : flTo l n k = false := by rw [← HNF.out]; exact G1.out
      rw [hT1]
      have HT1 := Lib.hid hT1; clear hT1
      have d0 := HQ.out.cell D0.out (by simp)
      have d1 := HQ.out.cell D1.out (by simp)
      have d2 := HQ.out.cell D2.out (by simp)
      have d3 := HQ.out.cell D3.out (by simp)
      have d4 := HQ.out.cell D4.out (by simp)
      have d5 := HQ.out.cell D5.out (by simp)
      have d6 := HQ.out.cell D6.out (by simp)
      go_wp2_with fail
      refine (HSH.out _ HQ.out).mono ?_
      rintro e w2 ⟨rfl, k2⟩
      have K2 := Lib.hid (HQ.out.trans k2); clear k2 d0 d1 d2 d3 d4 d5 d6
      have HT2 := G2
      rw [G2.out]
      have cc := K2.out.cell CCl.out (by simp)
      go_wp2_with fail
      refine (count_any _ base _ (l (n, 0)) (FC.out.kept K2.out (by simp)) (HKD.out _ (Or.inr (Or.inl rfl)))).mono ?_
      rintro e w3 ⟨rfl, k3⟩
      have K3 := Lib.hid (K2.out.trans k3); clear k3 cc
      obtain ⟨T3, hT3⟩ : ∃ T, sumNL (l (n, 0)) = T := ⟨_, rfl⟩
      rw [hT3]
      have HT3 := Lib.hid hT3; clear hT3
      by_cases t3 : 0 < T3
      · have t3d : decide (0 < T3) = true := by simp [t3]
        have T3D := Lib.hid t3d; clear t3d
        have hE : ocE P F l n = true := by unfold ocE; rw [HNF.out, HT1.out, HT2.out, HT3.out, T3D.out]; rfl
        have HE := Lib.hid hE; clear hE
        have c0 := K3.out.cell C0.out (by simp)
        have h0 := Lib.hid (FamTI.start H.out.fam K3.out hb (ocD n 0) (fun x _ h => by have := h.2.2; omega))
        go_wp2_with fail
        clear c0
        go_loopw [44] (fun i wr => ∃ j : Nat, j ≤ k ∧ i = .int .i64 j ∧ FamTI w base (ocI P n F) (ocp P n nb F) Q l (ocD n j) wr) (fun i _ => k - (intOf i).toNat)
        case atStart => exact ⟨0, Nat.zero_le _, rfl, h0.out⟩
        case round =>
          clear h0
          obtain ⟨j, hj, rfl, ht⟩ := hrel
          have hcur : ∃ v' l', OCN wr base nb n P F Q v' l' := by
            obtain ⟨v', l', f1, f2, f3, f4, f5⟩ := ht
            exact ⟨v', l', H.out.next f3 f1⟩
          obtain ⟨v', l', hcur⟩ := hcur
          have c0 := hcur.c0
          rw [HNF.out, HFB.out, HCP.out] at c0
          have HCUR := Lib.hid hcur; clear hcur
          have HT := Lib.hid ht; clear ht
          by_cases hjl : j < k
          · have hjn : j < F.nf := by rw [HNF.out]; exact hjl
            have i1 : (0 : Int) ≤ (j : Int) := by omega
            have i2 : (j : Int) < (k : Int) := by omega
            have hens : ∀ g o, ocp P n nb F (n + 1, 2 * j) = (g, o) → ∀ wx, wx = wr → Calls Tryz.prog 36 #[.pointer (some ⟨g, o, none⟩)] wx fun e w' => e = .returned (.tuple #[]) ∧ FamTI w base (ocI P n F) (ocp P n nb F) Q l (ocD n (j + 1)) w' := fun g o hg wx hwx => by
              subst hwx
              refine (oc_step hb HL.out HT.out (n + 1, 2 * j) (ocI_op hjn) (fun h => by have := h.2.2; dsimp only at this; omega) g o hg).mono ?_
              rintro e w' ⟨rfl, h⟩
              exact ⟨rfl, h.congr (fun x _ => ocD_succ n j x)⟩
            have HENS := Lib.hid hens; clear hens
            have hop := ocp_op P n nb F j
            cases hs : F.str j
            · have e15 := (HCUR.out.ofl_id j hjn hs).c15
              rw [hs] at hop
              simp only [Bool.false_eq_true, if_false] at hop
              rw [HFB.out] at e15 hop
              have HOP := Lib.hid hop
              have E15 := Lib.hid e15
              clear hop hs e15 hjn
              go_wp2_with fail
              refine (openOf_id _ FB (j * 18) E15.out).mono ?_
              rintro e wx ⟨rfl, rfl⟩
              go_wp2_with fail
              refine (HENS.out _ _ HOP.out _ rfl).mono ?_
              rintro e wy ⟨rfl, ht⟩
              have HTN := Lib.hid ht; clear ht
              go_wp2_with fail
              exact ⟨⟨j + 1, by omega, by go_num, HTN.out⟩, by simp [intOf]; omega⟩
            · have e15 := (HCUR.out.ofl_str j hjn hs).c15
              have e6 := (HCUR.out.ofl_str j hjn hs).c6
              rw [hs] at hop
              simp only [if_true] at hop
              rw [HFB.out] at e15 e6
              have HOP := Lib.hid hop
              have E15 := Lib.hid e15
              have E6 := Lib.hid e6
              clear hop hs e15 e6 hjn
              go_wp2_with fail
              refine (openOf_str _ FB (j * 18) (F.y j) E15.out E6.out).mono ?_
              rintro e wx ⟨rfl, rfl⟩
              go_wp2_with fail
              refine (HENS.out _ _ HOP.out _ rfl).mono ?_
              rintro e wy ⟨rfl, ht⟩
              have HTN := Lib.hid ht; clear ht
              go_wp2_with fail
              exact ⟨⟨j + 1, by omega, by go_num, HTN.out⟩, by simp [intOf]; omega⟩
          · obtain rfl : j = k := by omega
            clear c0
            go_wp2_with fail
            refine (oc_spec H.out hb HL.out HT.out).mono ?_
            rintro e w6 ⟨rfl, ht⟩
            have HT6 := Lib.hid ht; clear ht HT
            go_wp2_with fail
            refine (oc_step hb HL.out HT6.out (n, 0) (Or.inr (Or.inl rfl)) (oc_no P n _) nb 2 (ocp_c P n nb F)).mono ?_
            rintro e w7 ⟨rfl, ht⟩
            have hp7 : IsPass w7 pb := (ht.same.blk pb HPQ.out HPP.out).trans HPB.out
            have HA := Lib.hid (oc_end H.out HE.out (by rw [HNF.out]; exact ht)); clear ht HT6
            have hpart := part_base w7 pb hp7
            have HP7 := Lib.hid hp7; clear hp7
            go_wp2_with fail
            obtain ⟨v2, l2, hac, hens, -⟩ := HA.out
            refine (base_ObjectComp _ base nb n P F Q v2 l2 hac (fun x hx => by
              rcases hens x hx with ⟨_, _, a⟩ | ⟨_, a⟩
              · exact a.kinds (HKD.out x hx)
              · rw [a]; exact HKD.out x hx) _ pb HP7.out _).mono ?_
            rintro e w8 ⟨rfl, k8⟩
            have K8 := Lib.hid k8; clear k8 hac hens
            go_wp2_with fail
            go_end0
            exact ⟨rfl, HA.out.kept K8.out hb⟩
      · have t3d : decide (0 < T3) = false := by simp [t3]
        have T3D := Lib.hid t3d; clear t3d
        have hE : ocE P F l n = true := by unfold ocE; rw [HNF.out, HT1.out, HT2.out, HT3.out, T3D.out]; rfl
        have HE := Lib.hid hE; clear hE
        have c0 := K3.out.cell C0.out (by simp)
        have h0 := Lib.hid (FamTI.start H.out.fam K3.out hb (ocD n 0) (fun x _ h => by have := h.2.2; omega))
        go_wp2_with fail
        clear c0
        go_loopw [44] (fun i wr => ∃ j : Nat, j ≤ k ∧ i = .int .i64 j ∧ FamTI w base (ocI P n F) (ocp P n nb F) Q l (ocD n j) wr) (fun i _ => k - (intOf i).toNat)
        case atStart => exact ⟨0, Nat.zero_le _, rfl, h0.out⟩
        case round =>
          clear h0
          obtain ⟨j, hj, rfl, ht⟩ := hrel
          have hcur : ∃ v' l', OCN wr base nb n P F Q v' l' := by
            obtain ⟨v', l', f1, f2, f3, f4, f5⟩ := ht
            exact ⟨v', l', H.out.next f3 f1⟩
          obtain ⟨v', l', hcur⟩ := hcur
          have c0 := hcur.c0
          rw [HNF.out, HFB.out, HCP.out] at c0
          have HCUR := Lib.hid hcur; clear hcur
          have HT := Lib.hid ht; clear ht
          by_cases hjl : j < k
          · have hjn : j < F.nf := by rw [HNF.out]; exact hjl
            have i1 : (0 : Int) ≤ (j : Int) := by omega
            have i2 : (j : Int) < (k : Int) := by omega
            have hens : ∀ g o, ocp P n nb F (n + 1, 2 * j) = (g, o) → ∀ wx, wx = wr → Calls Tryz.prog 36 #[.pointer (some ⟨g, o, none⟩)] wx fun e w' => e = .returned (.tuple #[]) ∧ FamTI w base (ocI P n F) (ocp P n nb F) Q l (ocD n (j + 1)) w' := fun g o hg wx hwx => by
              subst hwx
              refine (oc_step hb HL.out HT.out (n + 1, 2 * j) (ocI_op hjn) (fun h => by have := h.2.2; dsimp only at this; omega) g o hg).mono ?_
              rintro e w' ⟨rfl, h⟩
              exact ⟨rfl, h.congr (fun x _ => ocD_succ n j x)⟩
            have HENS := Lib.hid hens; clear hens
            have hop := ocp_op P n nb F j
            cases hs : F.str j
            · have e15 := (HCUR.out.ofl_id j hjn hs).c15
              rw [hs] at hop
              simp only [Bool.false_eq_true, if_false] at hop
              rw [HFB.out] at e15 hop
              have HOP := Lib.hid hop
              have E15 := Lib.hid e15
              clear hop hs e15 hjn
              go_wp2_with fail
              refine (openOf_id _ FB (j * 18) E15.out).mono ?_
              rintro e wx ⟨rfl, rfl⟩
              go_wp2_with fail
              refine (HENS.out _ _ HOP.out _ rfl).mono ?_
              rintro e wy ⟨rfl, ht⟩
              have HTN := Lib.hid ht; clear ht
              go_wp2_with fail
              exact ⟨⟨j + 1, by omega, by go_num, HTN.out⟩, by simp [intOf]; omega⟩
            · have e15 := (HCUR.out.ofl_str j hjn hs).c15
              have e6 := (HCUR.out.ofl_str j hjn hs).c6
              rw [hs] at hop
              simp only [if_true] at hop
              rw [HFB.out] at e15 e6
              have HOP := Lib.hid hop
              have E15 := Lib.hid e15
              have E6 := Lib.hid e6
              clear hop hs e15 e6 hjn
              go_wp2_with fail
              refine (openOf_str _ FB (j * 18) (F.y j) E15.out E6.out).mono ?_
              rintro e wx ⟨rfl, rfl⟩
              go_wp2_with fail
              refine (HENS.out _ _ HOP.out _ rfl).mono ?_
              rintro e wy ⟨rfl, ht⟩
              have HTN := Lib.hid ht; clear ht
              go_wp2_with fail
              exact ⟨⟨j + 1, by omega, by go_num, HTN.out⟩, by simp [intOf]; omega⟩
          · obtain rfl : j = k := by omega
            clear c0
            go_wp2_with fail
            refine (oc_spec H.out hb HL.out HT.out).mono ?_
            rintro e w6 ⟨rfl, ht⟩
            have HT6 := Lib.hid ht; clear ht HT
            go_wp2_with fail
            refine (oc_step hb HL.out HT6.out (n, 0) (Or.inr (Or.inl rfl)) (oc_no P n _) nb 2 (ocp_c P n nb F)).mono ?_
            rintro e w7 ⟨rfl, ht⟩
            have hp7 : IsPass w7 pb := (ht.same.blk pb HPQ.out HPP.out).trans HPB.out
            have HA := Lib.hid (oc_end H.out HE.out (by rw [HNF.out]; exact ht)); clear ht HT6
            have hpart := part_base w7 pb hp7
            have HP7 := Lib.hid hp7; clear hp7
            go_wp2_with fail
            obtain ⟨v2, l2, hac, hens, -⟩ := HA.out
            refine (base_ObjectComp _ base nb n P F Q v2 l2 hac (fun x hx => by
              rcases hens x hx with ⟨_, _, a⟩ | ⟨_, a⟩
              · exact a.kinds (HKD.out x hx)
              · rw [a]; exact HKD.out x hx) _ pb HP7.out _).mono ?_
            rintro e w8 ⟨rfl, k8⟩
            have K8 := Lib.hid k8; clear k8 hac hens
            go_wp2_with fail
            go_end0
            exact ⟨rfl, HA.out.kept K8.out hb⟩

set_option maxRecDepth 100000 in
set_option maxHeartbeats 16000000 in
theorem fix_oc_10 (w : World) (base nb n : Nat) (P : Pl) (F : Fls) (Q : Nat → Prop) (v : Nat × Nat → Value) (l : Nat × Nat → List FE) (h : OCN w base nb n P F Q v l) (hk : ∀ x, ocI P n F x → Kinds (l x)) (hl : ∀ x, ocI P n F x → clean (l x) = false → (l x).length ≤ 1048576) (hb : base ≤ w.heap.size) (pb : Nat) (hpb : IsPass w pb) (hpQ : Q pb) (hpp : ∀ x, ocI P n F x → (ocp P n nb F x).1 ≠ pb) (ctx : Value) (h1 : flTo l n F.nf = true) (h2 : chTo l P.m n = false) :
    Calls Tryz.prog 27 #[.pointer (some ⟨pb, 0, none⟩), .iface 88 (.pointer (some ⟨pb, 0, none⟩)), .pointer (some ⟨nb, 0, none⟩), ctx] w fun e w' => e = .returned (.tuple #[]) ∧ OCTo w base nb n P F Q l w' := by
  have hpos := h.pos
  have G1 := Lib.hid h1; clear h1
  have G2 := Lib.hid h2; clear h2
  have c0 := h.c0
  obtain ⟨ml1, ml2, ml3⟩ := h.ml
  unfold maxLen at ml2
  have cf := h.chf hk
  obtain ⟨ka, kn, kc, hvc⟩ := (h.fam.fod (n, 0) (Or.inr (Or.inl rfl))).isSlice
  obtain ⟨va, vn, vc, hv⟩ := (cf.fod (n - 1, 0) ⟨by dsimp only; omega, Nat.zero_le _⟩).isSlice
  obtain ⟨po, hpo⟩ := P.out_ptr (n - 1)
  have cc := h.cc
  rw [hvc] at cc
  have d0 := cf.c0 (n - 1) (by omega)
  have d1 := h.ch.c1 (n - 1) (by omega)
  have d2 := h.ch.c2 (n - 1) (by omega)
  have d3 := h.ch.c3 (n - 1) (by omega)
  have d4 := h.ch.c4 (n - 1) (by omega)
  have d5 := h.ch.c5 (n - 1) (by omega)
  have d6 := h.ch.c6 (n - 1) (by omega)
  have hsh : ∀ w', Kept [] w w' → Calls Tryz.prog 35 #[P.lvl (v (n - 1, 0)) (n - 1)] w' (Bl (chTo l P.m n) w') := fun w' q => by
    have := should_any base n P v l (n - 1) (by omega) w' (h.ch.kept q) (cf.kept q)
    rwa [Nat.sub_add_cancel hpos] at this
  unfold Pl.lvl nulI at hsh
  unfold nulI at d4
  rw [h.b, h.o] at d0 d1 d2 d3 d4 d5 d6
  rw [hv] at d0 hsh
  rw [hpo] at d3 hsh
  obtain ⟨CM, hCM⟩ : ∃ m, P.m (n - 1) = m := ⟨_, rfl⟩
  obtain ⟨CA, hCA⟩ : ∃ m, P.ca (n - 1) = m := ⟨_, rfl⟩
  obtain ⟨CC, hCC⟩ : ∃ m, P.cc (n - 1) = m := ⟨_, rfl⟩
  obtain ⟨XE, hXE⟩ : ∃ m, P.xe (n - 1) = m := ⟨_, rfl⟩
  rw [hCM, hCA, hCC] at d2 hsh
  rw [hXE] at d4 hsh
  have HSH := Lib.hid hsh; clear hsh
  have FC := Lib.hid (h.fam.fod (n, 0) (Or.inr (Or.inl rfl)))
  rw [hvc] at FC
  have H := Lib.hid h; clear h
  have HKD := Lib.hid hk; clear hk
  have HL := Lib.hid hl; clear hl
  have HPB := Lib.hid hpb; clear hpb
  have HPQ := Lib.hid hpQ; clear hpQ
  have HPP := Lib.hid hpp; clear hpp
  have CCl := Lib.hid cc
  have D0 := Lib.hid d0
  have D1 := Lib.hid d1
  have D2 := Lib.hid d2
  have D3 := Lib.hid d3
  have D4 := Lib.hid d4
  have D5 := Lib.hid d5
  have D6 := Lib.hid d6
  obtain ⟨NF, hNF⟩ : ∃ m, F.nf = m := ⟨_, rfl⟩
  obtain ⟨FB, hFB⟩ : ∃ m, F.fb = m := ⟨_, rfl⟩
  obtain ⟨FCp, hFCp⟩ : ∃ m, F.cap = m := ⟨_, rfl⟩
  rw [hNF, hFB, hFCp] at c0
  rw [hNF, hFCp] at ml1
  rw [hFCp] at ml2
  rw [hNF] at ml3
  have C0 := Lib.hid c0
  have HCP := Lib.hid hFCp
  have HNF := Lib.hid hNF; clear hNF
  have HFB := Lib.hid hFB; clear hFB
  clear hvc hv hpo hCM hCA hCC hXE cf d0 d1 d2 d3 d4 d5 d6 cc hFCp
  go_enter Tryz.func27, Tryz.ntmps27
  go_wp2_with fail
  clear c0
  go_loopw [8, 17] (fun c i wr => ∃ k : Nat, k ≤ NF ∧ i = .int .i64 k ∧ c = .bool (flTo l n k) ∧ Kept [] w wr) (fun _ i _ => NF - (intOf i).toNat)
  case atStart => exact ⟨0, Nat.zero_le _, rfl, rfl, Kept.refl _ _⟩
  case round =>
    obtain ⟨k, hk, rfl, rfl, hq⟩ := hrel
    have HQ := Lib.hid hq; clear hq
    by_cases hlt : k < NF
    · have hkn : k < F.nf := by rw [HNF.out]; exact hlt
      have hc := H.out.kept HQ.out
      obtain ⟨ua, un, uc, hu⟩ := (hc.fam.fod _ (ocI_op hkn)).isSlice
      obtain ⟨ta, tn, tc, htt⟩ := (hc.fam.fod _ (ocI_ot hkn)).isSlice
      have FU := Lib.hid (hu ▸ hc.fam.fod _ (ocI_op hkn))
      have hes := flTo_succ l n k
      obtain ⟨L0, hL0⟩ : ∃ L0, flTo l n k = L0 := ⟨_, rfl⟩
      rw [hL0] at hes ⊢
      clear hL0
      obtain ⟨U, hU⟩ : ∃ U, sumNL (l (n + 1, 2 * k)) = U := ⟨_, rfl⟩
      rw [hU] at hes
      have HES := Lib.hid hes; clear hes
      have HUU := Lib.hid hU; clear hU
      have KN := Lib.hid hkn
      have e0 := hc.st k 0 hkn ⟨by omega, by omega, by omega⟩
      have e1 := hc.st k 1 hkn ⟨by omega, by omega, by omega⟩
      have e2 := hc.st k 2 hkn ⟨by omega, by omega, by omega⟩
      have e4 := hc.c4 k hkn
      have e5 := hc.st k 5 hkn ⟨by omega, by omega, by omega⟩
      have e6 := hc.st k 6 hkn ⟨by omega, by omega, by omega⟩
      have e7 := hc.st k 7 hkn ⟨by omega, by omega, by omega⟩
      have e8 := hc.st k 8 hkn ⟨by omega, by omega, by omega⟩
      have e9 := hc.st k 9 hkn ⟨by omega, by omega, by omega⟩
      have e10 := hc.st k 10 hkn ⟨by omega, by omega, by omega⟩
      have e11 := hc.st k 11 hkn ⟨by omega, by omega, by omega⟩
      have e12 := hc.st k 12 hkn ⟨by omega, by omega, by omega⟩
      have e13 := hc.st k 13 hkn ⟨by omega, by omega, by omega⟩
      have e14 := hc.st k 14 hkn ⟨by omega, by omega, by omega⟩
      have e15 := hc.st k 15 hkn ⟨by omega, by omega, by omega⟩
      have e16 := hc.st k 16 hkn ⟨by omega, by omega, by omega⟩
      have e17 := hc.st k 17 hkn ⟨by omega, by omega, by omega⟩
      rw [htt] at e4
      rw [HFB.out] at e0 e1 e2 e4 e5 e6 e7 e8 e9 e10 e11 e12 e13 e14 e15 e16 e17
      simp only [stC, nulI, litS, Nat.add_zero, List.getElem?_cons_succ, List.getElem?_cons_zero] at e0 e1 e2 e5 e6 e7 e8 e9 e10 e11 e12 e13 e14 e15 e16 e17
      obtain ⟨dd, hu1, hu2⟩ := Option.map_eq_some_iff.1 fld_row
      have HU1 := Lib.hid hu1; have HU2 := Lib.hid hu2; clear hu1 hu2
      cases hs : F.str k
      · skip
        have e3 := hc.c3 k hkn hs
        rw [hu, HFB.out] at e3
        rw [hs] at e6 e15
        simp only [Bool.false_eq_true, if_false] at e6 e15
        obtain ⟨vs, hrg, hsz, hone, v15, v3, v6⟩ : ∃ vs : List Value, wr.rangeAt FB (k * 18) vs ∧ vs.length = 18 ∧ vs.toArray.all (·.oneCell') = true ∧ vs.toArray[15]? = some (.int .i64 1) ∧ vs.toArray[3]? = some (.slice ua un uc) ∧ vs.toArray[6]? = some (.nilIface) :=
          ⟨_, (rg_cons e0 (rg_cons e1 (rg_cons e2 (rg_cons e3 (rg_cons e4 (rg_cons e5 (rg_cons e6 (rg_cons e7 (rg_cons e8 (rg_cons e9 (rg_cons e10 (rg_cons e11 (rg_cons e12 (rg_cons e13 (rg_cons e14 (rg_cons e15 (rg_cons e16 (rg_cons e17 rg_nil)))))))))))))))))), rfl, all_oneCell_toArray (by simp [Value.oneCell']), rfl, rfl, rfl⟩
        have ka := fun o => HQ.out.alloc o
        have KA := Lib.hid ka; clear ka hs hkn hc hu htt e0 e1 e2 e3 e4 e5 e6 e7 e8 e9 e10 e11 e12 e13 e14 e15 e16 e17
        have hst := run_storeCells_fld wr vs hsz hone
        have b15 := (cell_of_block (heap_alloc_new wr (.cells vs.toArray 74)) 15).trans v15
        have b3 := (cell_of_block (heap_alloc_new wr (.cells vs.toArray 74)) 3).trans v3
        have b6 := (cell_of_block (heap_alloc_new wr (.cells vs.toArray 74)) 6).trans v6
        have HRG := Lib.hid hrg; have HSZ := Lib.hid hsz; have B15 := Lib.hid b15; have B6 := Lib.hid b6; have B3 := Lib.hid b3; clear hrg hsz hone v15 v3 v6 b15 b6 b3
        go_wp2_with (refine wpList_load_mid rfl 74 _ rfl FB (k * 18) rfl vs dd HRG.out HU1.out HU2.out (by rw [HSZ.out]; exact fld_size) ?_)
        clear hst
        refine (openOf_id _ wr.heap.size 0 B15.out).mono ?_
        rintro e wx ⟨rfl, rfl⟩
        have b3 := B3.out
        go_wp2_with fail
        refine (count_any _ base _ (l (n + 1, 2 * k)) (FU.out.kept ((Kept.refl [] wr).alloc _) (by simp)) (HKD.out _ (ocI_op KN.out))).mono ?_
        rintro e w2 ⟨rfl, k2⟩
        rw [HUU.out]
        have K2 := Lib.hid ((KA.out _).trans k2); clear k2
        by_cases hU0 : 0 < U
        · go_wp2_with fail
          exact ⟨⟨k + 1, by omega, by go_num, by rw [HES.out]; simp [hU0], K2.out⟩, by simp [intOf]; omega⟩
        · go_wp2_with fail
          exact ⟨⟨k + 1, by omega, by go_num, by rw [HES.out, decide_eq_false (show ¬ 0 < U by omega)]; simp, K2.out⟩, by simp [intOf]; omega⟩
      · skip
        have e3 := hc.st k 3 hkn ⟨by omega, by omega, fun _ => hs⟩
        rw [HFB.out] at e3
        simp only [stC, List.getElem?_cons_succ, List.getElem?_cons_zero] at e3
        rw [hs] at e6 e15
        simp only [if_true] at e6 e15
        have ey := (hc.cy k hkn hs).1
        rw [hu] at ey
        have EY := Lib.hid ey; clear ey
        obtain ⟨vs, hrg, hsz, hone, v15, v3, v6⟩ : ∃ vs : List Value, wr.rangeAt FB (k * 18) vs ∧ vs.length = 18 ∧ vs.toArray.all (·.oneCell') = true ∧ vs.toArray[15]? = some (.int .i64 3) ∧ vs.toArray[3]? = some (.slice none 0 0) ∧ vs.toArray[6]? = some (litS (F.y k)) :=
          ⟨_, (rg_cons e0 (rg_cons e1 (rg_cons e2 (rg_cons e3 (rg_cons e4 (rg_cons e5 (rg_cons e6 (rg_cons e7 (rg_cons e8 (rg_cons e9 (rg_cons e10 (rg_cons e11 (rg_cons e12 (rg_cons e13 (rg_cons e14 (rg_cons e15 (rg_cons e16 (rg_cons e17 rg_nil)))))))))))))))))), rfl, all_oneCell_toArray (by simp [Value.oneCell']), rfl, rfl, rfl⟩
        have ka := fun o => HQ.out.alloc o
        have KA := Lib.hid ka; clear ka hs hkn hc hu htt e0 e1 e2 e3 e4 e5 e6 e7 e8 e9 e10 e11 e12 e13 e14 e15 e16 e17
        have hst := run_storeCells_fld wr vs hsz hone
        have b15 := (cell_of_block (heap_alloc_new wr (.cells vs.toArray 74)) 15).trans v15
        have b3 := (cell_of_block (heap_alloc_new wr (.cells vs.toArray 74)) 3).trans v3
        have b6 := (cell_of_block (heap_alloc_new wr (.cells vs.toArray 74)) 6).trans v6
        have HRG := Lib.hid hrg; have HSZ := Lib.hid hsz; have B15 := Lib.hid b15; have B6 := Lib.hid b6; have B3 := Lib.hid b3; clear hrg hsz hone v15 v3 v6 b15 b6 b3
        go_wp2_with (refine wpList_load_mid rfl 74 _ rfl FB (k * 18) rfl vs dd HRG.out HU1.out HU2.out (by rw [HSZ.out]; exact fld_size) ?_)
        clear hst
        refine (openOf_str _ wr.heap.size 0 (F.y k) B15.out B6.out).mono ?_
        rintro e wx ⟨rfl, rfl⟩
        have ey := fun o => (((Kept.refl [] wr).alloc o).cell EY.out (by simp))
        go_wp2_with fail
        refine (count_any _ base _ (l (n + 1, 2 * k)) (FU.out.kept ((Kept.refl [] wr).alloc _) (by simp)) (HKD.out _ (ocI_op KN.out))).mono ?_
        rintro e w2 ⟨rfl, k2⟩
        rw [HUU.out]
        have K2 := Lib.hid ((KA.out _).trans k2); clear k2
        by_cases hU0 : 0 < U
        · go_wp2_with fail
          exact ⟨⟨k + 1, by omega, by go_num, by rw [HES.out]; simp [hU0], K2.out⟩, by simp [intOf]; omega⟩
        · go_wp2_with fail
          exact ⟨⟨k + 1, by omega, by go_num, by rw [HES.out, decide_eq_false (show ¬ 0 < U by omega)]; simp, K2.out⟩, by simp [intOf]; omega⟩
    · obtain rfl : k = NF := by omega
      have hT1 : flTo l n k = true := by rw [← HNF.out]; exact G1.out
      rw [hT1]
      have HT1 := Lib.hid hT1; clear hT1
      have d0 := HQ.out.cell D0.out (by simp)
      have d1 := HQ.out.cell D1.out (by simp)
      have d2 := HQ.out.cell D2.out (by simp)
      have d3 := HQ.out.cell D3.out (by simp)
      have d4 := HQ.out.cell D4.out (by simp)
      have d5 := HQ.out.cell D5.out (by simp)
      have d6 := HQ.out.cell D6.out (by simp)
      go_wp2_with fail
      refine (HSH.out _ HQ.out).mono ?_
      rintro e w2 ⟨rfl, k2⟩
      have K2 := Lib.hid (HQ.out.trans k2); clear k2 d0 d1 d2 d3 d4 d5 d6
      have HT2 := G2
      rw [G2.out]
      have cc := K2.out.cell CCl.out (by simp)
      go_wp2_with fail
      refine (count_any _ base _ (l (n, 0)) (FC.out.kept K2.out (by simp)) (HKD.out _ (Or.inr (Or.inl rfl)))).mono ?_
      rintro e w3 ⟨rfl, k3⟩
      have K3 := Lib.hid (K2.out.trans k3); clear k3 cc
      obtain ⟨T3, hT3⟩ : ∃ T, sumNL (l (n, 0)) = T := ⟨_, rfl⟩
      rw [hT3]
      have HT3 := Lib.hid hT3; clear hT3
      by_cases t3 : 0 < T3
      · have t3d : decide (0 < T3) = true := by simp [t3]
        have T3D := Lib.hid t3d; clear t3d
        have hE : ocE P F l n = true := by unfold ocE; rw [HNF.out, HT1.out, HT2.out, HT3.out, T3D.out]; rfl
        have HE := Lib.hid hE; clear hE
        have c0 := K3.out.cell C0.out (by simp)
        have h0 := Lib.hid (FamTI.start H.out.fam K3.out hb (ocD n 0) (fun x _ h => by have := h.2.2; omega))
        go_wp2_with fail
        clear c0
        go_loopw [44] (fun i wr => ∃ j : Nat, j ≤ k ∧ i = .int .i64 j ∧ FamTI w base (ocI P n F) (ocp P n nb F) Q l (ocD n j) wr) (fun i _ => k - (intOf i).toNat)
        case atStart => exact ⟨0, Nat.zero_le _, rfl, h0.out⟩
        case round =>
          clear h0
          obtain ⟨j, hj, rfl, ht⟩ := hrel
          have hcur : ∃ v' l', OCN wr base nb n P F Q v' l' := by
            obtain ⟨v', l', f1, f2, f3, f4, f5⟩ := ht
            exact ⟨v', l', H.out.next f3 f1⟩
          obtain ⟨v', l', hcur⟩ := hcur
          have c0 := hcur.c0
          rw [HNF.out, HFB.out, HCP.out] at c0
          have HCUR := Lib.hid hcur; clear hcur
          have HT := Lib.hid ht; clear ht
          by_cases hjl : j < k
          · have hjn : j < F.nf := by rw [HNF.out]; exact hjl
            have i1 : (0 : Int) ≤ (j : Int) := by omega
            have i2 : (j : Int) < (k : Int) := by omega
            have hens : ∀ g o, ocp P n nb F (n + 1, 2 * j) = (g, o) → ∀ wx, wx = wr → Calls Tryz.prog 36 #[.pointer (some ⟨g, o, none⟩)] wx fun e w' => e = .returned (.tuple #[]) ∧ FamTI w base (ocI P n F) (ocp P n nb F) Q l (ocD n (j + 1)) w' := fun g o hg wx hwx => by
              subst hwx
              refine (oc_step hb HL.out HT.out (n + 1, 2 * j) (ocI_op hjn) (fun h => by have := h.2.2; dsimp only at this; omega) g o hg).mono ?_
              rintro e w' ⟨rfl, h⟩
              exact ⟨rfl, h.congr (fun x _ => ocD_succ n j x)⟩
            have HENS := Lib.hid hens; clear hens
            have hop := ocp_op P n nb F j
            cases hs : F.str j
            · have e15 := (HCUR.out.ofl_id j hjn hs).c15
              rw [hs] at hop
              simp only [Bool.false_eq_true, if_false] at hop
              rw [HFB.out] at e15 hop
              have HOP := Lib.hid hop
              have E15 := Lib.hid e15
              clear hop hs e15 hjn
              go_wp2_with fail
              refine (openOf_id _ FB (j * 18) E15.out).mono ?_
              rintro e wx ⟨rfl, rfl⟩
              go_wp2_with fail
              refine (HENS.out _ _ HOP.out _ rfl).mono ?_
              rintro e wy ⟨rfl, ht⟩
              have HTN := Lib.hid ht; clear ht
              go_wp2_with fail
              exact ⟨⟨j + 1, by omega, by go_num, HTN.out⟩, by simp [intOf]; omega⟩
            · have e15 := (HCUR.out.ofl_str j hjn hs).c15
              have e6 := (HCUR.out.ofl_str j hjn hs).c6
              rw [hs] at hop
              simp only [if_true] at hop
              rw [HFB.out] at e15 e6
              have HOP := Lib.hid hop
              have E15 := Lib.hid e15
              have E6 := Lib.hid e6
              clear hop hs e15 e6 hjn
              go_wp2_with fail
              refine (openOf_str _ FB (j * 18) (F.y j) E15.out E6.out).mono ?_
              rintro e wx ⟨rfl, rfl⟩
              go_wp2_with fail
              refine (HENS.out _ _ HOP.out _ rfl).mono ?_
              rintro e wy ⟨rfl, ht⟩
              have HTN := Lib.hid ht; clear ht
              go_wp2_with fail
              exact ⟨⟨j + 1, by omega, by go_num, HTN.out⟩, by simp [intOf]; omega⟩
          · obtain rfl : j = k := by omega
            clear c0
            go_wp2_with fail
            refine (oc_spec H.out hb HL.out HT.out).mono ?_
            rintro e w6 ⟨rfl, ht⟩
            have HT6 := Lib.hid ht; clear ht HT
            go_wp2_with fail
            refine (oc_step hb HL.out HT6.out (n, 0) (Or.inr (Or.inl rfl)) (oc_no P n _) nb 2 (ocp_c P n nb F)).mono ?_
            rintro e w7 ⟨rfl, ht⟩
            have hp7 : IsPass w7 pb := (ht.same.blk pb HPQ.out HPP.out).trans HPB.out
            have HA := Lib.hid (oc_end H.out HE.out (by rw [HNF.out]; exact ht)); clear ht HT6
            have hpart := part_base w7 pb hp7
            have HP7 := Lib.hid hp7; clear hp7
            go_wp2_with fail
            obtain ⟨v2, l2, hac, hens, -⟩ := HA.out
            refine (base_ObjectComp _ base nb n P F Q v2 l2 hac (fun x hx => by
              rcases hens x hx with ⟨_, _, a⟩ | ⟨_, a⟩
              · exact a.kinds (HKD.out x hx)
              · rw [a]; exact HKD.out x hx) _ pb HP7.out _).mono ?_
            rintro e w8 ⟨rfl, k8⟩
            have K8 := Lib.hid k8; clear k8 hac hens
            go_wp2_with fail
            go_end0
            exact ⟨rfl, HA.out.kept K8.out hb⟩
      · have t3d : decide (0 < T3) = false := by simp [t3]
        have T3D := Lib.hid t3d; clear t3d
        have hE : ocE P F l n = true := by unfold ocE; rw [HNF.out, HT1.out, HT2.out, HT3.out, T3D.out]; rfl
        have HE := Lib.hid hE; clear hE
        have c0 := K3.out.cell C0.out (by simp)
        have h0 := Lib.hid (FamTI.start H.out.fam K3.out hb (ocD n 0) (fun x _ h => by have := h.2.2; omega))
        go_wp2_with fail
        clear c0
        go_loopw [44] (fun i wr => ∃ j : Nat, j ≤ k ∧ i = .int .i64 j ∧ FamTI w base (ocI P n F) (ocp P n nb F) Q l (ocD n j) wr) (fun i _ => k - (intOf i).toNat)
        case atStart => exact ⟨0, Nat.zero_le _, rfl, h0.out⟩
        case round =>
          clear h0
          obtain ⟨j, hj, rfl, ht⟩ := hrel
          have hcur : ∃ v' l', OCN wr base nb n P F Q v' l' := by
            obtain ⟨v', l', f1, f2, f3, f4, f5⟩ := ht
            exact ⟨v', l', H.out.next f3 f1⟩
          obtain ⟨v', l', hcur⟩ := hcur
          have c0 := hcur.c0
          rw [HNF.out, HFB.out, HCP.out] at c0
          have HCUR := Lib.hid hcur; clear hcur
          have HT := Lib.hid ht; clear ht
          by_cases hjl : j < k
          · have hjn : j < F.nf := by rw [HNF.out]; exact hjl
            have i1 : (0 : Int) ≤ (j : Int) := by omega
            have i2 : (j : Int) < (k : Int) := by omega
            have hens : ∀ g o, ocp P n nb F (n + 1, 2 * j) = (g, o) → ∀ wx, wx = wr → Calls Tryz.prog 36 #[.pointer (some ⟨g, o, none⟩)] wx fun e w' => e = .returned (.tuple #[]) ∧ FamTI w base (ocI P n F) (ocp P n nb F) Q l (ocD n (j + 1)) w' := fun g o hg wx hwx => by
              subst hwx
              refine (oc_step hb HL.out HT.out (n + 1, 2 * j) (ocI_op hjn) (fun h => by have := h.2.2; dsimp only at this; omega) g o hg).mono ?_
              rintro e w' ⟨rfl, h⟩
              exact ⟨rfl, h.congr (fun x _ => ocD_succ n j x)⟩
            have HENS := Lib.hid hens; clear hens
            have hop := ocp_op P n nb F j
            cases hs : F.str j
            · have e15 := (HCUR.out.ofl_id j hjn hs).c15
              rw [hs] at hop
              simp only [Bool.false_eq_true, if_false] at hop
              rw [HFB.out] at e15 hop
              have HOP := Lib.hid hop
              have E15 := Lib.hid e15
              clear hop hs e15 hjn
              go_wp2_with fail
              refine (openOf_id _ FB (j * 18) E15.out).mono ?_
              rintro e wx ⟨rfl, rfl⟩
              go_wp2_with fail
              refine (HENS.out _ _ HOP.out _ rfl).mono ?_
              rintro e wy ⟨rfl, ht⟩
              have HTN := Lib.hid ht; clear ht
              go_wp2_with fail
              exact ⟨⟨j + 1, by omega, by go_num, HTN.out⟩, by simp [intOf]; omega⟩
            · have e15 := (HCUR.out.ofl_str j hjn hs).c15
              have e6 := (HCUR.out.ofl_str j hjn hs).c6
              rw [hs] at hop
              simp only [if_true] at hop
              rw [HFB.out] at e15 e6
              have HOP := Lib.hid hop
              have E15 := Lib.hid e15
              have E6 := Lib.hid e6
              clear hop hs e15 e6 hjn
              go_wp2_with fail
              refine (openOf_str _ FB (j * 18) (F.y j) E15.out E6.out).mono ?_
              rintro e wx ⟨rfl, rfl⟩
              go_wp2_with fail
              refine (HENS.out _ _ HOP.out _ rfl).mono ?_
              rintro e wy ⟨rfl, ht⟩
              have HTN := Lib.hid ht; clear ht
              go_wp2_with fail
              exact ⟨⟨j + 1, by omega, by go_num, HTN.out⟩, by simp [intOf]; omega⟩
          · obtain rfl : j = k := by omega
            clear c0
            go_wp2_with fail
            refine (oc_spec H.out hb HL.out HT.out).mono ?_
            rintro e w6 ⟨rfl, ht⟩
            have HT6 := Lib.hid ht; clear ht HT
            go_wp2_with fail
            refine (oc_step hb HL.out HT6.out (n, 0) (Or.inr (Or.inl rfl)) (oc_no P n _) nb 2 (ocp_c P n nb F)).mono ?_
            rintro e w7 ⟨rfl, ht⟩
            have hp7 : IsPass w7 pb := (ht.same.blk pb HPQ.out HPP.out).trans HPB.out
            have HA := Lib.hid (oc_end H.out HE.out (by rw [HNF.out]; exact ht)); clear ht HT6
            have hpart := part_base w7 pb hp7
            have HP7 := Lib.hid hp7; clear hp7
            go_wp2_with fail
            obtain ⟨v2, l2, hac, hens, -⟩ := HA.out
            refine (base_ObjectComp _ base nb n P F Q v2 l2 hac (fun x hx => by
              rcases hens x hx with ⟨_, _, a⟩ | ⟨_, a⟩
              · exact a.kinds (HKD.out x hx)
              · rw [a]; exact HKD.out x hx) _ pb HP7.out _).mono ?_
            rintro e w8 ⟨rfl, k8⟩
            have K8 := Lib.hid k8; clear k8 hac hens
            go_wp2_with fail
            go_end0
            exact ⟨rfl, HA.out.kept K8.out hb⟩

set_option maxRecDepth 100000 in
set_option maxHeartbeats 16000000 in
theorem fix_oc_11 (w : World) (base nb n : Nat) (P : Pl) (F : Fls) (Q : Nat → Prop) (v : Nat × Nat → Value) (l : Nat × Nat → List FE) (h : OCN w base nb n P F Q v l) (hk : ∀ x, ocI P n F x → Kinds (l x)) (hl : ∀ x, ocI P n F x → clean (l x) = false → (l x).length ≤ 1048576) (hb : base ≤ w.heap.size) (pb : Nat) (hpb : IsPass w pb) (hpQ : Q pb) (hpp : ∀ x, ocI P n F x → (ocp P n nb F x).1 ≠ pb) (ctx : Value) (h1 : flTo l n F.nf = true) (h2 : chTo l P.m n = true) :
    Calls Tryz.prog 27 #[.pointer (some ⟨pb, 0, none⟩), .iface 88 (.pointer (some ⟨pb, 0, none⟩)), .pointer (some ⟨nb, 0, none⟩), ctx] w fun e w' => e = .returned (.tuple #[]) ∧ OCTo w base nb n P F Q l w' := by
  have hpos := h.pos
  have G1 := Lib.hid h1; clear h1
  have G2 := Lib.hid h2; clear h2
  have c0 := h.c0
  obtain ⟨ml1, ml2, ml3⟩ := h.ml
  unfold maxLen at ml2
  have cf := h.chf hk
  obtain ⟨ka, kn, kc, hvc⟩ := (h.fam.fod (n, 0) (Or.inr (Or.inl rfl))).isSlice
  obtain ⟨va, vn, vc, hv⟩ := (cf.fod (n - 1, 0) ⟨by dsimp only; omega, Nat.zero_le _⟩).isSlice
  obtain ⟨po, hpo⟩ := P.out_ptr (n - 1)
  have cc := h.cc
  rw [hvc] at cc
  have d0 := cf.c0 (n - 1) (by omega)
  have d1 := h.ch.c1 (n - 1) (by omega)
  have d2 := h.ch.c2 (n - 1) (by omega)
  have d3 := h.ch.c3 (n - 1) (by omega)
  have d4 := h.ch.c4 (n - 1) (by omega)
  have d5 := h.ch.c5 (n - 1) (by omega)
  have d6 := h.ch.c6 (n - 1) (by omega)
  have hsh : ∀ w', Kept [] w w' → Calls Tryz.prog 35 #[P.lvl (v (n - 1, 0)) (n - 1)] w' (Bl (chTo l P.m n) w') := fun w' q => by
    have := should_any base n P v l (n - 1) (by omega) w' (h.ch.kept q) (cf.kept q)
    rwa [Nat.sub_add_cancel hpos] at this
  unfold Pl.lvl nulI at hsh
  unfold nulI at d4
  rw [h.b, h.o] at d0 d1 d2 d3 d4 d5 d6
  rw [hv] at d0 hsh
  rw [hpo] at d3 hsh
  obtain ⟨CM, hCM⟩ : ∃ m, P.m (n - 1) = m := ⟨_, rfl⟩
  obtain ⟨CA, hCA⟩ : ∃ m, P.ca (n - 1) = m := ⟨_, rfl⟩
  obtain ⟨CC, hCC⟩ : ∃ m, P.cc (n - 1) = m := ⟨_, rfl⟩
  obtain ⟨XE, hXE⟩ : ∃ m, P.xe (n - 1) = m := ⟨_, rfl⟩
  rw [hCM, hCA, hCC] at d2 hsh
  rw [hXE] at d4 hsh
  have HSH := Lib.hid hsh; clear hsh
  have FC := Lib.hid (h.fam.fod (n, 0) (Or.inr (Or.inl rfl)))
  rw [hvc] at FC
  have H := Lib.hid h; clear h
  have HKD := Lib.hid hk; clear hk
  have HL := Lib.hid hl; clear hl
  have HPB := Lib.hid hpb; clear hpb
  have HPQ := Lib.hid hpQ; clear hpQ
  have HPP := Lib.hid hpp; clear hpp
  have CCl := Lib.hid cc
  have D0 := Lib.hid d0
  have D1 := Lib.hid d1
  have D2 := Lib.hid d2
  have D3 := Lib.hid d3
  have D4 := Lib.hid d4
  have D5 := Lib.hid d5
  have D6 := Lib.hid d6
  obtain ⟨NF, hNF⟩ : ∃ m, F.nf = m := ⟨_, rfl⟩
  obtain ⟨FB, hFB⟩ : ∃ m, F.fb = m := ⟨_, rfl⟩
  obtain ⟨FCp, hFCp⟩ : ∃ m, F.cap = m := ⟨_, rfl⟩
  rw [hNF, hFB, hFCp] at c0
  rw [hNF, hFCp] at ml1
  rw [hFCp] at ml2
  rw [hNF] at ml3
  have C0 := Lib.hid c0
  have HCP := Lib.hid hFCp
  have HNF := Lib.hid hNF; clear hNF
  have HFB := Lib.hid hFB; clear hFB
  clear hvc hv hpo hCM hCA hCC hXE cf d0 d1 d2 d3 d4 d5 d6 cc hFCp
  go_enter Tryz.func27, Tryz.ntmps27
  go_wp2_with fail
  clear c0
  go_loopw [8, 17] (fun c i wr => ∃ k : Nat, k ≤ NF ∧ i = .int .i64 k ∧ c = .bool (flTo l n k) ∧ Kept [] w wr) (fun _ i _ => NF - (intOf i).toNat)
  case atStart => exact ⟨0, Nat.zero_le _, rfl, rfl, Kept.refl _ _⟩
  case round =>
    obtain ⟨k, hk, rfl, rfl, hq⟩ := hrel
    have HQ := Lib.hid hq; clear hq
    by_cases hlt : k < NF
    · have hkn : k < F.nf := by rw [HNF.out]; exact hlt
      have hc := H.out.kept HQ.out
      obtain ⟨ua, un, uc, hu⟩ := (hc.fam.fod _ (ocI_op hkn)).isSlice
      obtain ⟨ta, tn, tc, htt⟩ := (hc.fam.fod _ (ocI_ot hkn)).isSlice
      have FU := Lib.hid (hu ▸ hc.fam.fod _ (ocI_op hkn))
      have hes := flTo_succ l n k
      obtain ⟨L0, hL0⟩ : ∃ L0, flTo l n k = L0 := ⟨_, rfl⟩
      rw [hL0] at hes ⊢
      clear hL0
      obtain ⟨U, hU⟩ : ∃ U, sumNL (l (n + 1, 2 * k)) = U := ⟨_, rfl⟩
      rw [hU] at hes
      have HES := Lib.hid hes; clear hes
      have HUU := Lib.hid hU; clear hU
      have KN := Lib.hid hkn
      have e0 := hc.st k 0 hkn ⟨by omega, by omega, by omega⟩
      have e1 := hc.st k 1 hkn ⟨by omega, by omega, by omega⟩
      have e2 := hc.st k 2 hkn ⟨by omega, by omega, by omega⟩
      have e4 := hc.c4 k hkn
      have e5 := hc.st k 5 hkn ⟨by omega, by omega, by omega⟩
      have e6 := hc.st k 6 hkn ⟨by omega, by omega, by omega⟩
      have e7 := hc.st k 7 hkn ⟨by omega, by omega, by omega⟩
      have e8 := hc.st k 8 hkn ⟨by omega, by omega, by omega⟩
      have e9 := hc.st k 9 hkn ⟨by omega, by omega, by omega⟩
      have e10 := hc.st k 10 hkn ⟨by omega, by omega, by omega⟩
      have e11 := hc.st k 11 hkn ⟨by omega, by omega, by omega⟩
      have e12 := hc.st k 12 hkn ⟨by omega, by omega, by omega⟩
      have e13 := hc.st k 13 hkn ⟨by omega, by omega, by omega⟩
      have e14 := hc.st k 14 hkn ⟨by omega, by omega, by omega⟩
      have e15 := hc.st k 15 hkn ⟨by omega, by omega, by omega⟩
      have e16 := hc.st k 16 hkn ⟨by omega, by omega, by omega⟩
      have e17 := hc.st k 17 hkn ⟨by omega, by omega, by omega⟩
      rw [htt] at e4
      rw [HFB.out] at e0 e1 e2 e4 e5 e6 e7 e8 e9 e10 e11 e12 e13 e14 e15 e16 e17
      simp only [stC, nulI, litS, Nat.add_zero, List.getElem?_cons_succ, List.getElem?_cons_zero] at e0 e1 e2 e5 e6 e7 e8 e9 e10 e11 e12 e13 e14 e15 e16 e17
      obtain ⟨dd, hu1, hu2⟩ := Option.map_eq_some_iff.1 fld_row
      have HU1 := Lib.hid hu1; have HU2 := Lib.hid hu2; clear hu1 hu2
      cases hs : F.str k
      · skip
        have e3 := hc.c3 k hkn hs
        rw [hu, HFB.out] at e3
        rw [hs] at e6 e15
        simp only [Bool.false_eq_true, if_false] at e6 e15
        obtain ⟨vs, hrg, hsz, hone, v15, v3, v6⟩ : ∃ vs : List Value, wr.rangeAt FB (k * 18) vs ∧ vs.length = 18 ∧ vs.toArray.all (·.oneCell') = true ∧ vs.toArray[15]? = some (.int .i64 1) ∧ vs.toArray[3]? = some (.slice ua un uc) ∧ vs.toArray[6]? = some (.nilIface) :=
          ⟨_, (rg_cons e0 (rg_cons e1 (rg_cons e2 (rg_cons e3 (rg_cons e4 (rg_cons e5 (rg_cons e6 (rg_cons e7 (rg_cons e8 (rg_cons e9 (rg_cons e10 (rg_cons e11 (rg_cons e12 (rg_cons e13 (rg_cons e14 (rg_cons e15 (rg_cons e16 (rg_cons e17 rg_nil)))))))))))))))))), rfl, all_oneCell_toArray (by simp [Value.oneCell']), rfl, rfl, rfl⟩
        have ka := fun o => HQ.out.alloc o
        have KA := Lib.hid ka; clear ka hs hkn hc hu htt e0 e1 e2 e3 e4 e5 e6 e7 e8 e9 e10 e11 e12 e13 e14 e15 e16 e17
        have hst := run_storeCells_fld wr vs hsz hone
        have b15 := (cell_of_block (heap_alloc_new wr (.cells vs.toArray 74)) 15).trans v15
        have b3 := (cell_of_block (heap_alloc_new wr (.cells vs.toArray 74)) 3).trans v3
        have b6 := (cell_of_block (heap_alloc_new wr (.cells vs.toArray 74)) 6).trans v6
        have HRG := Lib.hid hrg; have HSZ := Lib.hid hsz; have B15 := Lib.hid b15; have B6 := Lib.hid b6; have B3 := Lib.hid b3; clear hrg hsz hone v15 v3 v6 b15 b6 b3
        go_wp2_with (refine wpList_load_mid rfl 74 _ rfl FB (k * 18) rfl vs dd HRG.out HU1.out HU2.out (by rw [HSZ.out]; exact fld_size) ?_)
        clear hst
        refine (openOf_id _ wr.heap.size 0 B15.out).mono ?_
        rintro e wx ⟨rfl, rfl⟩
        have b3 := B3.out
        go_wp2_with fail
        refine (count_any _ base _ (l (n + 1, 2 * k)) (FU.out.kept ((Kept.refl [] wr).alloc _) (by simp)) (HKD.out _ (ocI_op KN.out))).mono ?_
        rintro e w2 ⟨rfl, k2⟩
        rw [HUU.out]
        have K2 := Lib.hid ((KA.out _).trans k2); clear k2
        by_cases hU0 : 0 < U
        · go_wp2_with fail
          exact ⟨⟨k + 1, by omega, by go_num, by rw [HES.out]; simp [hU0], K2.out⟩, by simp [intOf]; omega⟩
        · go_wp2_with fail
          exact ⟨⟨k + 1, by omega, by go_num, by rw [HES.out, decide_eq_false (show ¬ 0 < U by omega)]; simp, K2.out⟩, by simp [intOf]; omega⟩
      · skip
        have e3 := hc.st k 3 hkn ⟨by omega, by omega, fun _ => hs⟩
        rw [HFB.out] at e3
        simp only [stC, List.getElem?_cons_succ, List.getElem?_cons_zero] at e3
        rw [hs] at e6 e15
        simp only [if_true] at e6 e15
        have ey := (hc.cy k hkn hs).1
        rw [hu] at ey
        have EY := Lib.hid ey; clear ey
        obtain ⟨vs, hrg, hsz, hone, v15, v3, v6⟩ : ∃ vs : List Value, wr.rangeAt FB (k * 18) vs ∧ vs.length = 18 ∧ vs.toArray.all (·.oneCell') = true ∧ vs.toArray[15]? = some (.int .i64 3) ∧ vs.toArray[3]? = some (.slice none 0 0) ∧ vs.toArray[6]? = some (litS (F.y k)) :=
          ⟨_, (rg_cons e0 (rg_cons e1 (rg_cons e2 (rg_cons e3 (rg_cons e4 (rg_cons e5 (rg_cons e6 (rg_cons e7 (rg_cons e8 (rg_cons e9 (rg_cons e10 (rg_cons e11 (rg_cons e12 (rg_cons e13 (rg_cons e14 (rg_cons e15 (rg_cons e16 (rg_cons e17 rg_nil)))))))))))))))))), rfl, all_oneCell_toArray (by simp [Value.oneCell']), rfl, rfl, rfl⟩
        have ka := fun o => HQ.out.alloc o
        have KA := Lib.hid ka; clear ka hs hkn hc hu htt e0 e1 e2 e3 e4 e5 e6 e7 e8 e9 e10 e11 e12 e13 e14 e15 e16 e17
        have hst := run_storeCells_fld wr vs hsz hone
        have b15 := (cell_of_block (heap_alloc_new wr (.cells vs.toArray 74)) 15).trans v15
        have b3 := (cell_of_block (heap_alloc_new wr (.cells vs.toArray 74)) 3).trans v3
        have b6 := (cell_of_block (heap_alloc_new wr (.cells vs.toArray 74)) 6).trans v6
        have HRG := Lib.hid hrg; have HSZ := Lib.hid hsz; have B15 := Lib.hid b15; have B6 := Lib.hid b6; have B3 := Lib.hid b3; clear hrg hsz hone v15 v3 v6 b15 b6 b3
        go_wp2_with (refine wpList_load_mid rfl 74 _ rfl FB (k * 18) rfl vs dd HRG.out HU1.out HU2.out (by rw [HSZ.out]; exact fld_size) ?_)
        clear hst
        refine (openOf_str _ wr.heap.size 0 (F.y k) B15.out B6.out).mono ?_
        rintro e wx ⟨rfl, rfl⟩
        have ey := fun o => (((Kept.refl [] wr).alloc o).cell EY.out (by simp))
        go_wp2_with fail
        refine (count_any _ base _ (l (n + 1, 2 * k)) (FU.out.kept ((Kept.refl [] wr).alloc _) (by simp)) (HKD.out _ (ocI_op KN.out))).mono ?_
        rintro e w2 ⟨rfl, k2⟩
        rw [HUU.out]
        have K2 := Lib.hid ((KA.out _).trans k2); clear k2
        by_cases hU0 : 0 < U
        · go_wp2_with fail
          exact ⟨⟨k + 1, by omega, by go_num, by rw [HES.out]; simp [hU0], K2.out⟩, by simp [intOf]; omega⟩
        · go_wp2_with fail
          exact ⟨⟨k + 1, by omega, by go_num, by rw [HES.out, decide_eq_false (show ¬ 0 < U by omega)]; simp, K2.out⟩, by simp [intOf]; omega⟩
    · obtain rfl : k = NF := by omega
      have hT1 : flTo l n k = true := by rw [← HNF.out]; exact G1.out
      rw [hT1]
      have HT1 := Lib.hid hT1; clear hT1
      have d0 := HQ.out.cell D0.out (by simp)
      have d1 := HQ.out.cell D1.out (by simp)
      have d2 := HQ.out.cell D2.out (by simp)
      have d3 := HQ.out.cell D3.out (by simp)
      have d4 := HQ.out.cell D4.out (by simp)
      have d5 := HQ.out.cell D5.out (by simp)
      have d6 := HQ.out.cell D6.out (by simp)
      go_wp2_with fail
      refine (HSH.out _ HQ.out).mono ?_
      rintro e w2 ⟨rfl, k2⟩
      have K2 := Lib.hid (HQ.out.trans k2); clear k2 d0 d1 d2 d3 d4 d5 d6
      have HT2 := G2
      rw [G2.out]
      have cc := K2.out.cell CCl.out (by simp)
      go_wp2_with fail
      refine (count_any _ base _ (l (n, 0)) (FC.out.kept K2.out (by simp)) (HKD.out _ (Or.inr (Or.inl rfl)))).mono ?_
      rintro e w3 ⟨rfl, k3⟩
      have K3 := Lib.hid (K2.out.trans k3); clear k3 cc
      obtain ⟨T3, hT3⟩ : ∃ T, sumNL (l (n, 0)) = T := ⟨_, rfl⟩
      rw [hT3]
      have HT3 := Lib.hid hT3; clear hT3
      by_cases t3 : 0 < T3
      · have t3d : decide (0 < T3) = true := by simp [t3]
        have T3D := Lib.hid t3d; clear t3d
        have hE : ocE P F l n = true := by unfold ocE; rw [HNF.out, HT1.out, HT2.out, HT3.out, T3D.out]; rfl
        have HE := Lib.hid hE; clear hE
        have c0 := K3.out.cell C0.out (by simp)
        have h0 := Lib.hid (FamTI.start H.out.fam K3.out hb (ocD n 0) (fun x _ h => by have := h.2.2; omega))
        go_wp2_with fail
        clear c0
        go_loopw [44] (fun i wr => ∃ j : Nat, j ≤ k ∧ i = .int .i64 j ∧ FamTI w base (ocI P n F) (ocp P n nb F) Q l (ocD n j) wr) (fun i _ => k - (intOf i).toNat)
        case atStart => exact ⟨0, Nat.zero_le _, rfl, h0.out⟩
        case round =>
          clear h0
          obtain ⟨j, hj, rfl, ht⟩ := hrel
          have hcur : ∃ v' l', OCN wr base nb n P F Q v' l' := by
            obtain ⟨v', l', f1, f2, f3, f4, f5⟩ := ht
            exact ⟨v', l', H.out.next f3 f1⟩
          obtain ⟨v', l', hcur⟩ := hcur
          have c0 := hcur.c0
          rw [HNF.out, HFB.out, HCP.out] at c0
          have HCUR := Lib.hid hcur; clear hcur
          have HT := Lib.hid ht; clear ht
          by_cases hjl : j < k
          · have hjn : j < F.nf := by rw [HNF.out]; exact hjl
            have i1 : (0 : Int) ≤ (j : Int) := by omega
            have i2 : (j : Int) < (k : Int) := by omega
            have hens : ∀ g o, ocp P n nb F (n + 1, 2 * j) = (g, o) → ∀ wx, wx = wr → Calls Tryz.prog 36 #[.pointer (some ⟨g, o, none⟩)] wx fun e w' => e = .returned (.tuple #[]) ∧ FamTI w base (ocI P n F) (ocp P n nb F) Q l (ocD n (j + 1)) w' := fun g o hg wx hwx => by
              subst hwx
              refine (oc_step hb HL.out HT.out (n + 1, 2 * j) (ocI_op hjn) (fun h => by have := h.2.2; dsimp only at this; omega) g o hg).mono ?_
              rintro e w' ⟨rfl, h⟩
              exact ⟨rfl, h.congr (fun x _ => ocD_succ n j x)⟩
            have HENS := Lib.hid hens; clear hens
            have hop := ocp_op P n nb F j
            cases hs : F.str j
            · have e15 := (HCUR.out.ofl_id j hjn hs).c15
              rw [hs] at hop
              simp only [Bool.false_eq_true, if_false] at hop
              rw [HFB.out] at e15 hop
              have HOP := Lib.hid hop
              have E15 := Lib.hid e15
              clear hop hs e15 hjn
              go_wp2_with fail
              refine (openOf_id _ FB (j * 18) E15.out).mono ?_
              rintro e wx ⟨rfl, rfl⟩
              go_wp2_with fail
              refine (HENS.out _ _ HOP.out _ rfl).mono ?_
              rintro e wy ⟨rfl, ht⟩
              have HTN := Lib.hid ht; clear ht
              go_wp2_with fail
              exact ⟨⟨j + 1, by omega, by go_num, HTN.out⟩, by simp [intOf]; omega⟩
            · have e15 := (HCUR.out.ofl_str j hjn hs).c15
              have e6 := (HCUR.out.ofl_str j hjn hs).c6
              rw [hs] at hop
              simp only [if_true] at hop
              rw [HFB.out] at e15 e6
              have HOP := Lib.hid hop
              have E15 := Lib.hid e15
              have E6 := Lib.hid e6
              clear hop hs e15 e6 hjn
              go_wp2_with fail
              refine (openOf_str _ FB (j * 18) (F.y j) E15.out E6.out).mono ?_
              rintro e wx ⟨rfl, rfl⟩
              go_wp2_with fail
              refine (HENS.out _ _ HOP.out _ rfl).mono ?_
              rintro e wy ⟨rfl, ht⟩
              have HTN := Lib.hid ht; clear ht
              go_wp2_with fail
              exact ⟨⟨j + 1, by omega, by go_num, HTN.out⟩, by simp [intOf]; omega⟩
          · obtain rfl : j = k := by omega
            clear c0
            go_wp2_with fail
            refine (oc_spec H.out hb HL.out HT.out).mono ?_
            rintro e w6 ⟨rfl, ht⟩
            have HT6 := Lib.hid ht; clear ht HT
            go_wp2_with fail
            refine (oc_step hb HL.out HT6.out (n, 0) (Or.inr (Or.inl rfl)) (oc_no P n _) nb 2 (ocp_c P n nb F)).mono ?_
            rintro e w7 ⟨rfl, ht⟩
            have hp7 : IsPass w7 pb := (ht.same.blk pb HPQ.out HPP.out).trans HPB.out
            have HA := Lib.hid (oc_end H.out HE.out (by rw [HNF.out]; exact ht)); clear ht HT6
            have hpart := part_base w7 pb hp7
            have HP7 := Lib.hid hp7; clear hp7
            go_wp2_with fail
            obtain ⟨v2, l2, hac, hens, -⟩ := HA.out
            refine (base_ObjectComp _ base nb n P F Q v2 l2 hac (fun x hx => by
              rcases hens x hx with ⟨_, _, a⟩ | ⟨_, a⟩
              · exact a.kinds (HKD.out x hx)
              · rw [a]; exact HKD.out x hx) _ pb HP7.out _).mono ?_
            rintro e w8 ⟨rfl, k8⟩
            have K8 := Lib.hid k8; clear k8 hac hens
            go_wp2_with fail
            go_end0
            exact ⟨rfl, HA.out.kept K8.out hb⟩
      · have t3d : decide (0 < T3) = false := by simp [t3]
        have T3D := Lib.hid t3d; clear t3d
        have hE : ocE P F l n = true := by unfold ocE; rw [HNF.out, HT1.out, HT2.out, HT3.out, T3D.out]; rfl
        have HE := Lib.hid hE; clear hE
        have c0 := K3.out.cell C0.out (by simp)
        have h0 := Lib.hid (FamTI.start H.out.fam K3.out hb (ocD n 0) (fun x _ h => by have := h.2.2; omega))
        go_wp2_with fail
        clear c0
        go_loopw [44] (fun i wr => ∃ j : Nat, j ≤ k ∧ i = .int .i64 j ∧ FamTI w base (ocI P n F) (ocp P n nb F) Q l (ocD n j) wr) (fun i _ => k - (intOf i).toNat)
        case atStart => exact ⟨0, Nat.zero_le _, rfl, h0.out⟩
        case round =>
          clear h0
          obtain ⟨j, hj, rfl, ht⟩ := hrel
          have hcur : ∃ v' l', OCN wr base nb n P F Q v' l' := by
            obtain ⟨v', l', f1, f2, f3, f4, f5⟩ := ht
            exact ⟨v', l', H.out.next f3 f1⟩
          obtain ⟨v', l', hcur⟩ := hcur
          have c0 := hcur.c0
          rw [HNF.out, HFB.out, HCP.out] at c0
          have HCUR := Lib.hid hcur; clear hcur
          have HT := Lib.hid ht; clear ht
          by_cases hjl : j < k
          · have hjn : j < F.nf := by rw [HNF.out]; exact hjl
            have i1 : (0 : Int) ≤ (j : Int) := by omega
            have i2 : (j : Int) < (k : Int) := by omega
            have hens : ∀ g o, ocp P n nb F (n + 1, 2 * j) = (g, o) → ∀ wx, wx = wr → Calls Tryz.prog 36 #[.pointer (some ⟨g, o, none⟩)] wx fun e w' => e = .returned (.tuple #[]) ∧ FamTI w base (ocI P n F) (ocp P n nb F) Q l (ocD n (j + 1)) w' := fun g o hg wx hwx => by
              subst hwx
              refine (oc_step hb HL.out HT.out (n + 1, 2 * j) (ocI_op hjn) (fun h => by have := h.2.2; dsimp only at this; omega) g o hg).mono ?_
              rintro e w' ⟨rfl, h⟩
              exact ⟨rfl, h.congr (fun x _ => ocD_succ n j x)⟩
            have HENS := Lib.hid hens; clear hens
            have hop := ocp_op P n nb F j
            cases hs : F.str j
            · have e15 := (HCUR.out.ofl_id j hjn hs).c15
              rw [hs] at hop
              simp only [Bool.false_eq_true, if_false] at hop
              rw [HFB.out] at e15 hop
              have HOP := Lib.hid hop
              have E15 := Lib.hid e15
              clear hop hs e15 hjn
              go_wp2_with fail
              refine (openOf_id _ FB (j * 18) E15.out).mono ?_
              rintro e wx ⟨rfl, rfl⟩
              go_wp2_with fail
              refine (HENS.out _ _ HOP.out _ rfl).mono ?_
              rintro e wy ⟨rfl, ht⟩
              have HTN := Lib.hid ht; clear ht
              go_wp2_with fail
              exact ⟨⟨j + 1, by omega, by go_num, HTN.out⟩, by simp [intOf]; omega⟩
            · have e15 := (HCUR.out.ofl_str j hjn hs).c15
              have e6 := (HCUR.out.ofl_str j hjn hs).c6
              rw [hs] at hop
              simp only [if_true] at hop
              rw [HFB.out] at e15 e6
              have HOP := Lib.hid hop
              have E15 := Lib.hid e15
              have E6 := Lib.hid e6
              clear hop hs e15 e6 hjn
              go_wp2_with fail
              refine (openOf_str _ FB (j * 18) (F.y j) E15.out E6.out).mono ?_
              rintro e wx ⟨rfl, rfl⟩
              go_wp2_with fail
              refine (HENS.out _ _ HOP.out _ rfl).mono ?_
              rintro e wy ⟨rfl, ht⟩
              have HTN := Lib.hid ht; clear ht
              go_wp2_with fail
              exact ⟨⟨j + 1, by omega, by go_num, HTN.out⟩, by simp [intOf]; omega⟩
          · obtain rfl : j = k := by omega
            clear c0
            go_wp2_with fail
            refine (oc_spec H.out hb HL.out HT.out).mono ?_
            rintro e w6 ⟨rfl, ht⟩
            have HT6 := Lib.hid ht; clear ht HT
            go_wp2_with fail
            refine (oc_step hb HL.out HT6.out (n, 0) (Or.inr (Or.inl rfl)) (oc_no P n _) nb 2 (ocp_c P n nb F)).mono ?_
            rintro e w7 ⟨rfl, ht⟩
            have hp7 : IsPass w7 pb := (ht.same.blk pb HPQ.out HPP.out).trans HPB.out
            have HA := Lib.hid (oc_end H.out HE.out (by rw [HNF.out]; exact ht)); clear ht HT6
            have hpart := part_base w7 pb hp7
            have HP7 := Lib.hid hp7; clear hp7
            go_wp2_with fail
            obtain ⟨v2, l2, hac, hens, -⟩ := HA.out
            refine (base_ObjectComp _ base nb n P F Q v2 l2 hac (fun x hx => by
              rcases hens x hx with ⟨_, _, a⟩ | ⟨_, a⟩
              · exact a.kinds (HKD.out x hx)
              · rw [a]; exact HKD.out x hx) _ pb HP7.out _).mono ?_
            rintro e w8 ⟨rfl, k8⟩
            have K8 := Lib.hid k8; clear k8 hac hens
            go_wp2_with fail
            go_end0
            exact ⟨rfl, HA.out.kept K8.out hb⟩

theorem fix_ObjectComp (w : World) (base nb n : Nat) (P : Pl) (F : Fls) (Q : Nat → Prop) (v : Nat × Nat → Value) (l : Nat × Nat → List FE) (h : OCN w base nb n P F Q v l) (hk : ∀ x, ocI P n F x → Kinds (l x)) (hl : ∀ x, ocI P n F x → clean (l x) = false → (l x).length ≤ 1048576) (hb : base ≤ w.heap.size) (pb : Nat) (hpb : IsPass w pb) (hpQ : Q pb) (hpp : ∀ x, ocI P n F x → (ocp P n nb F x).1 ≠ pb) (ctx : Value) :
    Calls Tryz.prog 27 #[.pointer (some ⟨pb, 0, none⟩), .iface 88 (.pointer (some ⟨pb, 0, none⟩)), .pointer (some ⟨nb, 0, none⟩), ctx] w fun e w' => e = .returned (.tuple #[]) ∧ OCTo w base nb n P F Q l w' := by
  cases h1 : flTo l n F.nf
  · cases h2 : chTo l P.m n
    · exact fix_oc_00 w base nb n P F Q v l h hk hl hb pb hpb hpQ hpp ctx h1 h2
    · exact fix_oc_01 w base nb n P F Q v l h hk hl hb pb hpb hpQ hpp ctx h1 h2
  · cases h2 : chTo l P.m n
    · exact fix_oc_10 w base nb n P F Q v l h hk hl hb pb hpb hpQ hpp ctx h1 h2
    · exact fix_oc_11 w base nb n P F Q v l h hk hl hb pb hpb hpQ hpp ctx h1 h2

set_option maxRecDepth 100000 in
set_option maxHeartbeats 4000000 in
theorem zzfix_ObjectComp (w : World) (base nb n : Nat) (P : Pl) (F : Fls) (Q : Nat → Prop) (v : Nat × Nat → Value) (l : Nat × Nat → List FE) (h : OCN w base nb n P F Q v l) (hk : ∀ x, ocI P n F x → Kinds (l x)) (hl : ∀ x, ocI P n F x → clean (l x) = false → (l x).length ≤ 1048576) (hb : base ≤ w.heap.size) :
    Calls Tryz.prog 13 #[.pointer (some ⟨nb, 0, none⟩)] w fun e w' => e = .returned (.tuple #[]) ∧ ∃ Q' v' l', OCN w' base nb n P F Q' v' l' ∧ (∀ x, ocI P n F x → (ocS P n x ∧ ocE P F l n = true ∧ Ens (l x) (l' x)) ∨ ((¬ ocS P n x ∨ ocE P F l n = false) ∧ l' x = l x)) ∧ Below base w w' ∧ (∀ g, Q g → Q' g) ∧ ∀ g, Q g → (∀ x, ocI P n F x → (ocp P n nb F x).1 ≠ g) → w'.heap[g]? = w.heap[g]? := by
  have H := Lib.hid h; clear h
  have HKD := Lib.hid hk; clear hk
  have HL := Lib.hid hl; clear hl
  go_enter Tryz.func13, Tryz.ntmps13
  go_wp2_with fail
  have ka : Kept [] w (w.alloc (.cells #[] 92)) := (Kept.refl [] w).alloc _
  have hpb : IsPass (w.alloc (.cells #[] 92)) w.heap.size := heap_alloc_new w _
  have hlt : ∀ x, ocI P n F x → (ocp P n nb F x).1 ≠ w.heap.size := fun x hx e => by have := H.out.fam.lt _ (H.out.fam.q x hx); omega
  have hw := (H.out.kept ka).wider (g := w.heap.size) (by simp) hb (fun x hx e => by have := (World.ownsRow.lt (H.out.fam.fod x hx) _ e).2; omega)
  refine (fix_ObjectComp _ base nb n P F _ v l hw HKD.out HL.out (Nat.le_trans hb ka.size) w.heap.size hpb (Or.inr rfl) hlt _).mono ?_
  rintro e w1 ⟨rfl, hA⟩
  have HA := Lib.hid hA; clear hA
  go_wp2_with fail
  go_end0
  obtain ⟨v', l', h1, h2, h3, h4⟩ := HA.out
  have h5 : ∀ g, Q g → (∀ x, ocI P n F x → (ocp P n nb F x).1 ≠ g) → w1.heap[g]? = w.heap[g]? := fun g hg hn => (h4 g (Or.inl hg) hn).trans (ka.block g (H.out.fam.lt g hg) (by simp))
  exact ⟨rfl, _, v', l', h1, h2, (ka.below hb (by simp)).trans h3, fun g hg => Or.inl hg, h5⟩
end Go.Proofs.YtgdipdbmllkckaaGreatFmt
