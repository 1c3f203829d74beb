/- Array comprehensions in memory. -/
import Derived.Test.YtgdipdbmllkckaaGreatFmtNd
import Derived.Test.YtgdipdbmllkckaaGreatFmtFs
import Derived.Test.YtgdipdbmllkckaaGreatFmtOpN
namespace Go.Proofs.YtgdipdbmllkckaaGreatFmt
open Go.ChangeShapes Go.WideShapes Go.ChangeAt Go.RowKit

/-- The fodders of an array comprehension: its chain's, its close fodder (n, 0), its body's (n, 1). -/
def acI (P : Pl) (n : Nat) (x : Nat × Nat) : Prop := P.In n x ∨ x = (n, 0) ∨ x = (n, 1)
def acp (P : Pl) (n nb lb : Nat) (x : Nat × Nat) : Nat × Nat := if x = (n, 0) then (nb, 9) else if x = (n, 1) then (lb, 0) else P.pos x
structure ACN (w : World) (base nb lb n : Nat) (P : Pl) (Q : Nat → Prop) (v : Nat × Nat → Value) (l : Nat × Nat → List FE) : Prop where
  pos : 0 < n
  b : P.b (n - 1) = nb
  o : P.o (n - 1) = 2
  ch : Chn w n P
  fam : FamI w base (acI P n) (acp P n nb lb) Q v l
  fr : Frees (acI P n) (acp P n nb lb) n P
  hQ : ∀ g, P.Q n g → Q g
  f01 : ∀ x, acI P n x → acp P n nb lb x ≠ (nb, 0) ∧ acp P n nb lb x ≠ (nb, 1)
  c0 : w.cell? ⟨nb, 0, none⟩ = some (nulI lb)
  c1 : w.cell? ⟨nb, 1, none⟩ = some (.slice none 0 0)
theorem ACN.nbQ {w : World} {base nb lb n : Nat} {P : Pl} {Q : Nat → Prop} {v : Nat × Nat → Value} {l : Nat × Nat → List FE} (h : ACN w base nb lb n P Q v l) : Q nb :=
  h.hQ nb ⟨n - 1, by have := h.pos; omega, Or.inl h.b.symm⟩
theorem acp_in {P : Pl} {n nb lb : Nat} {x : Nat × Nat} (h : P.In n x) : acp P n nb lb x = P.pos x := by
  obtain ⟨i, j⟩ := x
  have hi : i < n := h.1
  unfold acp
  rw [if_neg (by simp; omega), if_neg (by simp; omega)]
theorem acp_c (P : Pl) (n nb lb : Nat) : acp P n nb lb (n, 0) = (nb, 9) := if_pos rfl
theorem acp_b (P : Pl) (n nb lb : Nat) : acp P n nb lb (n, 1) = (lb, 0) := by unfold acp; rw [if_neg (by simp), if_pos rfl]
theorem ACN.next {w w' : World} {base nb lb n : Nat} {P : Pl} {Q : Nat → Prop} {v v' : Nat × Nat → Value} {l l' : Nat × Nat → List FE} (h : ACN w base nb lb n P Q v l) (s : SameI (acI P n) (acp P n nb lb) Q w w') (f : FamI w' base (acI P n) (acp P n nb lb) Q v' l') : ACN w' base nb lb n P Q v' l' :=
  { h with
    ch := h.ch.same s h.fr h.hQ
    fam := f
    c0 := (s.cell nb 0 h.nbQ (fun x hx => (h.f01 x hx).1)).trans h.c0
    c1 := (s.cell nb 1 h.nbQ (fun x hx => (h.f01 x hx).2)).trans h.c1 }
theorem ACN.kept {w w' : World} {base nb lb n : Nat} {P : Pl} {Q : Nat → Prop} {v : Nat × Nat → Value} {l : Nat × Nat → List FE} (h : ACN w base nb lb n P Q v l) (q : Kept [] w w') : ACN w' base nb lb n P Q v l :=
  h.next (SameI.of_kept q h.fam.lt) (h.fam.kept q)
theorem ACN.wider {w : World} {base nb lb n g : Nat} {P : Pl} {Q : Nat → Prop} {v : Nat × Nat → Value} {l : Nat × Nat → List FE} (h : ACN w base nb lb n P Q v l) (hg : g < w.heap.size) (hb : base ≤ g) (hs : ∀ x, acI P n x → (v x).ownBlock ≠ some g) : ACN w base nb lb n P (fun y => Q y ∨ y = g) v l :=
  { h with
    fam := h.fam.wider (fun _ h => Or.inl h) (fun y hy => by rcases hy with hy | rfl; exact h.fam.lt y hy; exact hg) (fun y hy => by rcases hy with hy | rfl; exact h.fam.bs y hy; exact hb) (fun x hx y hy hq => by
      rcases hq with hq | rfl
      · exact h.fam.sep x hx y hy hq
      · exact hs x hx hy)
    hQ := fun y hy => Or.inl (h.hQ y hy) }
theorem ACN.chf {w : World} {base nb lb n : Nat} {P : Pl} {Q : Nat → Prop} {v : Nat × Nat → Value} {l : Nat × Nat → List FE} (h : ACN w base nb lb n P Q v l) (hk : ∀ x, acI P n x → Kinds (l x)) : ChF w base n P v l :=
  ⟨fun x hx => by have := h.fam.c x (Or.inl hx); rwa [acp_in hx] at this, fun x hx => h.fam.fod x (Or.inl hx), fun x hx => hk x (Or.inl hx)⟩
theorem ACN.cc {w : World} {base nb lb n : Nat} {P : Pl} {Q : Nat → Prop} {v : Nat × Nat → Value} {l : Nat × Nat → List FE} (h : ACN w base nb lb n P Q v l) : w.cell? ⟨nb, 9, none⟩ = some (v (n, 0)) := by
  have := h.fam.c (n, 0) (Or.inr (Or.inl rfl))
  rwa [acp_c] at this
theorem ACN.cb {w : World} {base nb lb n : Nat} {P : Pl} {Q : Nat → Prop} {v : Nat × Nat → Value} {l : Nat × Nat → List FE} (h : ACN w base nb lb n P Q v l) : w.cell? ⟨lb, 0, none⟩ = some (v (n, 1)) := by
  have := h.fam.c (n, 1) (Or.inr (Or.inr rfl))
  rwa [acp_b] at this
theorem ACN.fb {w : World} {base nb lb n : Nat} {P : Pl} {Q : Nat → Prop} {v : Nat × Nat → Value} {l : Nat × Nat → List FE} (h : ACN w base nb lb n P Q v l) : w.frozen? ⟨lb, 0, none⟩ = false := by
  have := h.fam.f (n, 1) (Or.inr (Or.inr rfl))
  rwa [acp_b] at this


set_option maxRecDepth 100000 in
set_option maxHeartbeats 8000000 in
theorem base_ArrayComp (w : World) (base nb lb n : Nat) (P : Pl) (Q : Nat → Prop) (v : Nat × Nat → Value) (l : Nat × Nat → List FE) (h : ACN w base nb lb n P Q v l) (hk : ∀ x, acI P n x → Kinds (l x)) (r : Value) (pb : Nat) (hpb : IsPass w pb) (ctx : Value) :
    Calls Tryz.prog 78 #[r, .iface 88 (.pointer (some ⟨pb, 0, none⟩)), .pointer (some ⟨nb, 0, none⟩), ctx] w fun e w' => e = .returned (.tuple #[]) ∧ Kept [] w w' := by
  have hn1 := nilA_Fodder pb
  have hn2 := nilA_Visit pb
  have hn3 := nilA_ForSpec pb
  have H := Lib.hid h; clear h
  have HKD := Lib.hid hk; clear hk
  have HPB := Lib.hid hpb; clear hpb
  go_enter Tryz.func78, Tryz.ntmps78
  have hm := meth_Visit pb w.drew (HPB.out.kept (Kept.refl [] w).drew (by simp))
  go_wp2_with fail
  go_still_tail 9, (by kernel_rfl)
  go_wp2_with fail
  refine (visit_LiteralNull _ base _ pb nb (0) lb (HPB.out.kept (Kept.refl [] w).drew (by simp)) _ (v (n, 1)) (l (n, 1)) ((H.out.kept (Kept.refl [] w).drew).fam.fod _ (Or.inr (Or.inr rfl))) (H.out.kept (Kept.refl [] w).drew).c0 (H.out.kept (Kept.refl [] w).drew).cb (H.out.kept (Kept.refl [] w).drew).fb).mono ?_
  rintro e w1 ⟨rfl, k⟩
  have k' := ((Kept.refl [] w).drew).trans k
  have K_w1 := Lib.hid k'; clear k' k hm
  have hm := meth_Fodder pb w1.drew (HPB.out.kept K_w1.out.drew (by simp))
  go_wp2_with fail
  go_still_tail 9, (by kernel_rfl)
  go_wp2_with fail
  refine (passFodder _ base _ pb nb (1) (HPB.out.kept K_w1.out.drew (by simp)) _ (.slice none 0 0) [] (fod_nil _ _) (H.out.kept K_w1.out.drew).c1).mono ?_
  rintro e w2 ⟨rfl, k⟩
  have k' := (K_w1.out.drew).trans k
  have K_w2 := Lib.hid k'; clear k' k hm
  have hfs : ∀ w' r, Kept [] w w' → Calls Tryz.prog 71 #[r, .iface 88 (.pointer (some ⟨pb, 0, none⟩)), .pointer (some ⟨nb, 2, none⟩), ctx] w' fun e w'' => e = .returned (.tuple #[]) ∧ Kept [] w' w'' := fun w' r q => by
    have h' := H.out.kept q
    have hpos := h'.pos
    have := forSpec_any base n P v l pb ctx (n - 1) (by omega) w' r (HPB.out.kept q (by simp)) h'.ch (h'.chf HKD.out)
    rw [h'.b, h'.o] at this
    exact this
  have HFS := Lib.hid hfs; clear hfs
  have hm := meth_ForSpec pb w2.drew (HPB.out.kept K_w2.out.drew (by simp))
  go_wp2_with fail
  go_still_tail 9, (by kernel_rfl)
  go_wp2_with fail
  refine (HFS.out _ _ K_w2.out.drew).mono ?_
  rintro e w3 ⟨rfl, k⟩
  have k' := (K_w2.out.drew).trans k
  have K_w3 := Lib.hid k'; clear k' k hm
  have hm := meth_Fodder pb w3.drew (HPB.out.kept K_w3.out.drew (by simp))
  go_wp2_with fail
  go_still_tail 9, (by kernel_rfl)
  go_wp2_with fail
  refine (passFodder _ base _ pb nb (9) (HPB.out.kept K_w3.out.drew (by simp)) _ (v (n, 0)) (l (n, 0)) ((H.out.kept K_w3.out.drew).fam.fod _ (Or.inr (Or.inl rfl))) (H.out.kept K_w3.out.drew).cc).mono ?_
  rintro e w4 ⟨rfl, k⟩
  have k' := (K_w3.out.drew).trans k
  have K_w4 := Lib.hid k'; clear k' k hm
  go_wp2_with fail
  go_end0
  exact ⟨rfl, K_w4.out⟩

/-- Does some fodder count a line break? -/
def acE (P : Pl) (l : Nat × Nat → List FE) (n : Nat) : Bool := decide (0 < sumNL (l (n, 1))) || chTo l P.m n || decide (0 < sumNL (l (n, 0)))
/-- What FixNewlines.ArrayComp leaves. -/
def ACTo (w : World) (base nb lb n : Nat) (P : Pl) (Q : Nat → Prop) (l : Nat × Nat → List FE) (w' : World) : Prop :=
  ∃ v' l', ACN w' base nb lb n P Q v' l' ∧ (∀ x, acI P n x → (acE P l n = true ∧ Ens (l x) (l' x)) ∨ (acE P l n = false ∧ l' x = l x)) ∧ Below base w w'

theorem acI_in {P : Pl} {n : Nat} {x : Nat × Nat} (h : P.In n x) : acI P n x := Or.inl h
theorem ac_step {w0 w : World} {base nb lb n : Nat} {P : Pl} {Q : Nat → Prop} {v : Nat × Nat → Value} {l : Nat × Nat → List FE} (_h : ACN w0 base nb lb n P Q v l) (hb : base ≤ w0.heap.size) (hl : ∀ x, acI P n x → clean (l x) = false → (l x).length ≤ 1048576) {D : Nat × Nat → Prop} (ht : FamTI w0 base (acI P n) (acp P n nb lb) Q l D w) (x : Nat × Nat) (hx : acI P n x) (hD : ¬ D x) (g o : Nat) (hg : acp P n nb lb x = (g, o)) :
    Calls Tryz.prog 36 #[.pointer (some ⟨g, o, none⟩)] w fun e w' => e = .returned (.tuple #[]) ∧ FamTI w0 base (acI P n) (acp P n nb lb) Q l (fun i => D i ∨ i = x) w' := by
  have := ensure_FamI w base (acI P n) x (acp P n nb lb) Q l D w0 ht hx hD (hl x hx) hb
  rw [hg] at this
  exact this
theorem ac_spec {w0 w : World} {base nb lb n : Nat} {P : Pl} {Q : Nat → Prop} {v : Nat × Nat → Value} {l : Nat × Nat → List FE} (h : ACN w0 base nb lb n P Q v l) (hb : base ≤ w0.heap.size) (hl : ∀ x, acI P n x → clean (l x) = false → (l x).length ≤ 1048576) (ht : FamTI w0 base (acI P n) (acp P n nb lb) Q l (fun x => False ∨ x = (n, 1)) w) :
    Calls Tryz.prog 37 #[.pointer (some ⟨nb, 2, none⟩)] w fun e w' => e = .returned (.tuple #[]) ∧ FamTI w0 base (acI P n) (acp P n nb lb) Q l (downD P (fun x => False ∨ x = (n, 1)) n) w' := by
  have hpos := h.pos
  have he : EnsR (acI P n) (acp P n nb lb) Q n P l w0 base := ⟨fun x hx => ⟨Or.inl hx, acp_in hx⟩, fun w' s => h.ch.same s h.fr h.hQ, hl, hb⟩
  have := ensureSp_any _ _ _ n P l w0 base he (fun x => False ∨ x = (n, 1)) (n - 1) (by omega) w ht (fun x hx e => by
    rcases e with e | e
    · exact e
    · subst e; dsimp only at hx; omega)
  rw [h.b, h.o, Nat.sub_add_cancel hpos] at this
  exact this
theorem ac_end {w0 w : World} {base nb lb n : Nat} {P : Pl} {Q : Nat → Prop} {v : Nat × Nat → Value} {l : Nat × Nat → List FE} (h : ACN w0 base nb lb n P Q v l) (hE : acE P l n = true) (ht : FamTI w0 base (acI P n) (acp P n nb lb) Q l (fun x => downD P (fun x => False ∨ x = (n, 1)) n x ∨ x = (n, 0)) w) : ACTo w0 base nb lb n P Q l w := by
  obtain ⟨v', l', f1, f2, f3, f4, f5⟩ := ht
  refine ⟨v', l', h.next f3 f1, fun x hx => ?_, f4⟩
  rcases f2 x hx with ⟨_, a⟩ | ⟨a, _⟩
  · exact Or.inl ⟨hE, a⟩
  · exfalso
    apply a
    rcases hx with hx | rfl | rfl
    · exact Or.inl (Or.inr hx)
    · exact Or.inr rfl
    · exact Or.inl (Or.inl (Or.inr rfl))
theorem ACTo.kept {w w' w'' : World} {base nb lb n : Nat} {P : Pl} {Q : Nat → Prop} {l : Nat × Nat → List FE} (h : ACTo w base nb lb n P Q l w') (q : Kept [] w' w'') (hb : base ≤ w.heap.size) : ACTo w base nb lb n P Q l w'' := by
  obtain ⟨v', l', h1, h2, h3⟩ := h
  exact ⟨v', l', h1.kept q, h2, h3.trans (q.below (Nat.le_trans hb h3.size) (by simp))⟩

set_option maxRecDepth 100000 in
set_option maxHeartbeats 8000000 in
theorem fix_ArrayComp (w : World) (base nb lb n : Nat) (P : Pl) (Q : Nat → Prop) (v : Nat × Nat → Value) (l : Nat × Nat → List FE) (h : ACN w base nb lb n P Q v l) (hk : ∀ x, acI P n x → Kinds (l x)) (hl : ∀ x, acI P n x → clean (l x) = false → (l x).length ≤ 1048576) (hb : base ≤ w.heap.size) (pb : Nat) (hpb : IsPass w pb) (hpQ : Q pb) (hpp : ∀ x, acI P n x → (acp P n nb lb x).1 ≠ pb) (ctx : Value) :
    Calls Tryz.prog 114 #[.pointer (some ⟨pb, 0, none⟩), .iface 88 (.pointer (some ⟨pb, 0, none⟩)), .pointer (some ⟨nb, 0, none⟩), ctx] w fun e w' => e = .returned (.tuple #[]) ∧ ACTo w base nb lb n P Q l w' := by
  have hpos := h.pos
  have c0 := h.c0
  unfold nulI at c0
  have cf := h.chf hk
  obtain ⟨ba, bn, bc, hvb⟩ := (h.fam.fod (n, 1) (Or.inr (Or.inr rfl))).isSlice
  obtain ⟨ka, kn, kc, hvc⟩ := (h.fam.fod (n, 0) (Or.inr (Or.inl rfl))).isSlice
  obtain ⟨va, vn, vc, hv⟩ := (cf.fod (n - 1, 0) ⟨by dsimp only; omega, Nat.zero_le _⟩).isSlice
  obtain ⟨po, hpo⟩ := P.out_ptr (n - 1)
  have cb := h.cb
  rw [hvb] at cb
  have cc := h.cc
  rw [hvc] at cc
  have d0 := cf.c0 (n - 1) (by omega)
  have d1 := h.ch.c1 (n - 1) (by omega)
  have d2 := h.ch.c2 (n - 1) (by omega)
  have d3 := h.ch.c3 (n - 1) (by omega)
  have d4 := h.ch.c4 (n - 1) (by omega)
  have d5 := h.ch.c5 (n - 1) (by omega)
  have d6 := h.ch.c6 (n - 1) (by omega)
  have hsh : ∀ w', Kept [] w w' → Calls Tryz.prog 35 #[P.lvl (v (n - 1, 0)) (n - 1)] w' (Bl (chTo l P.m n) w') := fun w' q => by
    have := should_any base n P v l (n - 1) (by omega) w' (h.ch.kept q) (cf.kept q)
    rwa [Nat.sub_add_cancel hpos] at this
  unfold Pl.lvl nulI at hsh
  unfold nulI at d4
  rw [h.b, h.o] at d0 d1 d2 d3 d4 d5 d6
  rw [hv] at d0 hsh
  rw [hpo] at d3 hsh
  obtain ⟨CM, hCM⟩ : ∃ m, P.m (n - 1) = m := ⟨_, rfl⟩
  obtain ⟨CA, hCA⟩ : ∃ m, P.ca (n - 1) = m := ⟨_, rfl⟩
  obtain ⟨CC, hCC⟩ : ∃ m, P.cc (n - 1) = m := ⟨_, rfl⟩
  obtain ⟨XE, hXE⟩ : ∃ m, P.xe (n - 1) = m := ⟨_, rfl⟩
  rw [hCM, hCA, hCC] at d2 hsh
  rw [hXE] at d4 hsh
  have HSH := Lib.hid hsh; clear hsh
  have FB := Lib.hid (h.fam.fod (n, 1) (Or.inr (Or.inr rfl)))
  have FC := Lib.hid (h.fam.fod (n, 0) (Or.inr (Or.inl rfl)))
  rw [hvb] at FB
  rw [hvc] at FC
  have H := Lib.hid h; clear h
  have HKD := Lib.hid hk; clear hk
  have HL := Lib.hid hl; clear hl
  have HPB := Lib.hid hpb; clear hpb
  have HPQ := Lib.hid hpQ; clear hpQ
  have HPP := Lib.hid hpp; clear hpp
  have C0 := Lib.hid c0
  have CB := Lib.hid cb
  have CCl := Lib.hid cc
  have D0 := Lib.hid d0
  have D1 := Lib.hid d1
  have D2 := Lib.hid d2
  have D3 := Lib.hid d3
  have D4 := Lib.hid d4
  have D5 := Lib.hid d5
  have D6 := Lib.hid d6
  clear hvb hvc hv hpo hCM hCA hCC hXE cf d0 d1 d2 d3 d4 d5 d6 cc
  go_enter Tryz.func114, Tryz.ntmps114
  go_wp2_with fail
  refine (openF_LiteralNull _ lb).mono ?_
  rintro e w0 ⟨rfl, rfl⟩
  go_wp2_with fail
  refine (count_any _ base _ (l (n, 1)) FB.out (HKD.out _ (Or.inr (Or.inr rfl)))).mono ?_
  rintro e w1 ⟨rfl, k1⟩
  have K1 := Lib.hid k1; clear k1 c0 cb
  obtain ⟨T1, hT1⟩ : ∃ T, sumNL (l (n, 1)) = T := ⟨_, rfl⟩
  rw [hT1]
  have HT1 := Lib.hid hT1; clear hT1
  by_cases t1 : 0 < T1
  · have t1d : decide (0 < T1) = true := by simp [t1]
    have T1D := Lib.hid t1d; clear t1d
    have d0 := K1.out.cell D0.out (by simp)
    have d1 := K1.out.cell D1.out (by simp)
    have d2 := K1.out.cell D2.out (by simp)
    have d3 := K1.out.cell D3.out (by simp)
    have d4 := K1.out.cell D4.out (by simp)
    have d5 := K1.out.cell D5.out (by simp)
    have d6 := K1.out.cell D6.out (by simp)
    go_wp2_with fail
    refine (HSH.out _ K1.out).mono ?_
    rintro e w2 ⟨rfl, k2⟩
    have K2 := Lib.hid (K1.out.trans k2); clear k2 d0 d1 d2 d3 d4 d5 d6
    obtain ⟨T2, hT2⟩ : ∃ T, chTo l P.m n = T := ⟨_, rfl⟩
    rw [hT2]
    have HT2 := Lib.hid hT2; clear hT2
    cases T2
    · skip
      have cc := K2.out.cell CCl.out (by simp)
      go_wp2_with fail
      refine (count_any _ base _ (l (n, 0)) (FC.out.kept K2.out (by simp)) (HKD.out _ (Or.inr (Or.inl rfl)))).mono ?_
      rintro e w3 ⟨rfl, k3⟩
      have K3 := Lib.hid (K2.out.trans k3); clear k3 cc
      obtain ⟨T3, hT3⟩ : ∃ T, sumNL (l (n, 0)) = T := ⟨_, rfl⟩
      rw [hT3]
      have HT3 := Lib.hid hT3; clear hT3
      by_cases t3 : 0 < T3
      · have t3d : decide (0 < T3) = true := by simp [t3]
        have T3D := Lib.hid t3d; clear t3d
        have c0 := K3.out.cell C0.out (by simp)
        go_wp2_with fail
        refine (openF_LiteralNull _ lb).mono ?_
        rintro e w4 ⟨rfl, rfl⟩
        go_wp2_with fail
        refine (ac_step H.out hb HL.out (FamTI.start H.out.fam K3.out hb (fun _ => False) (fun _ _ h => h)) (n, 1) (Or.inr (Or.inr rfl)) (fun h => h) lb 0 (acp_b P n nb lb)).mono ?_
        rintro e w5 ⟨rfl, ht⟩
        have HT5 := Lib.hid ht; clear ht c0
        go_wp2_with fail
        refine (ac_spec H.out hb HL.out HT5.out).mono ?_
        rintro e w6 ⟨rfl, ht⟩
        have HT6 := Lib.hid ht; clear ht HT5
        go_wp2_with fail
        refine (ac_step H.out hb HL.out HT6.out (n, 0) (Or.inr (Or.inl rfl)) (fun h => by rcases h with (h | h) | h; exact h; simp at h; exact absurd h.1 (Nat.lt_irrefl _)) nb 9 (acp_c P n nb lb)).mono ?_
        rintro e w7 ⟨rfl, ht⟩
        have hE : acE P l n = true := by unfold acE; rw [HT1.out, HT2.out, HT3.out]; rw [T1D.out, T3D.out]; rfl
        have hp7 : IsPass w7 pb := (ht.same.blk pb HPQ.out HPP.out).trans HPB.out
        have HA := Lib.hid (ac_end H.out hE ht); clear ht HT6 hE
        have hpart := part_base w7 pb hp7
        have HP7 := Lib.hid hp7; clear hp7
        go_wp2_with fail
        obtain ⟨v', l', hac, hens, -⟩ := HA.out
        refine (base_ArrayComp _ base nb lb n P Q v' l' hac (fun x hx => by
          rcases hens x hx with ⟨_, a⟩ | ⟨_, a⟩
          · exact a.kinds (HKD.out x hx)
          · rw [a]; exact HKD.out x hx) _ pb HP7.out _).mono ?_
        rintro e w8 ⟨rfl, k8⟩
        have K8 := Lib.hid k8; clear k8 hac hens
        go_wp2_with fail
        go_end0
        exact ⟨rfl, HA.out.kept K8.out hb⟩
      · have t3d : decide (0 < T3) = false := by simp [t3]
        have T3D := Lib.hid t3d; clear t3d
        have c0 := K3.out.cell C0.out (by simp)
        go_wp2_with fail
        refine (openF_LiteralNull _ lb).mono ?_
        rintro e w4 ⟨rfl, rfl⟩
        go_wp2_with fail
        refine (ac_step H.out hb HL.out (FamTI.start H.out.fam K3.out hb (fun _ => False) (fun _ _ h => h)) (n, 1) (Or.inr (Or.inr rfl)) (fun h => h) lb 0 (acp_b P n nb lb)).mono ?_
        rintro e w5 ⟨rfl, ht⟩
        have HT5 := Lib.hid ht; clear ht c0
        go_wp2_with fail
        refine (ac_spec H.out hb HL.out HT5.out).mono ?_
        rintro e w6 ⟨rfl, ht⟩
        have HT6 := Lib.hid ht; clear ht HT5
        go_wp2_with fail
        refine (ac_step H.out hb HL.out HT6.out (n, 0) (Or.inr (Or.inl rfl)) (fun h => by rcases h with (h | h) | h; exact h; simp at h; exact absurd h.1 (Nat.lt_irrefl _)) nb 9 (acp_c P n nb lb)).mono ?_
        rintro e w7 ⟨rfl, ht⟩
        have hE : acE P l n = true := by unfold acE; rw [HT1.out, HT2.out, HT3.out]; rw [T1D.out, T3D.out]; rfl
        have hp7 : IsPass w7 pb := (ht.same.blk pb HPQ.out HPP.out).trans HPB.out
        have HA := Lib.hid (ac_end H.out hE ht); clear ht HT6 hE
        have hpart := part_base w7 pb hp7
        have HP7 := Lib.hid hp7; clear hp7
        go_wp2_with fail
        obtain ⟨v', l', hac, hens, -⟩ := HA.out
        refine (base_ArrayComp _ base nb lb n P Q v' l' hac (fun x hx => by
          rcases hens x hx with ⟨_, a⟩ | ⟨_, a⟩
          · exact a.kinds (HKD.out x hx)
          · rw [a]; exact HKD.out x hx) _ pb HP7.out _).mono ?_
        rintro e w8 ⟨rfl, k8⟩
        have K8 := Lib.hid k8; clear k8 hac hens
        go_wp2_with fail
        go_end0
        exact ⟨rfl, HA.out.kept K8.out hb⟩
    · skip
      have cc := K2.out.cell CCl.out (by simp)
      go_wp2_with fail
      refine (count_any _ base _ (l (n, 0)) (FC.out.kept K2.out (by simp)) (HKD.out _ (Or.inr (Or.inl rfl)))).mono ?_
      rintro e w3 ⟨rfl, k3⟩
      have K3 := Lib.hid (K2.out.trans k3); clear k3 cc
      obtain ⟨T3, hT3⟩ : ∃ T, sumNL (l (n, 0)) = T := ⟨_, rfl⟩
      rw [hT3]
      have HT3 := Lib.hid hT3; clear hT3
      by_cases t3 : 0 < T3
      · have t3d : decide (0 < T3) = true := by simp [t3]
        have T3D := Lib.hid t3d; clear t3d
        have c0 := K3.out.cell C0.out (by simp)
        go_wp2_with fail
        refine (openF_LiteralNull _ lb).mono ?_
        rintro e w4 ⟨rfl, rfl⟩
        go_wp2_with fail
        refine (ac_step H.out hb HL.out (FamTI.start H.out.fam K3.out hb (fun _ => False) (fun _ _ h => h)) (n, 1) (Or.inr (Or.inr rfl)) (fun h => h) lb 0 (acp_b P n nb lb)).mono ?_
        rintro e w5 ⟨rfl, ht⟩
        have HT5 := Lib.hid ht; clear ht c0
        go_wp2_with fail
        refine (ac_spec H.out hb HL.out HT5.out).mono ?_
        rintro e w6 ⟨rfl, ht⟩
        have HT6 := Lib.hid ht; clear ht HT5
        go_wp2_with fail
        refine (ac_step H.out hb HL.out HT6.out (n, 0) (Or.inr (Or.inl rfl)) (fun h => by rcases h with (h | h) | h; exact h; simp at h; exact absurd h.1 (Nat.lt_irrefl _)) nb 9 (acp_c P n nb lb)).mono ?_
        rintro e w7 ⟨rfl, ht⟩
        have hE : acE P l n = true := by unfold acE; rw [HT1.out, HT2.out, HT3.out]; rw [T1D.out, T3D.out]; rfl
        have hp7 : IsPass w7 pb := (ht.same.blk pb HPQ.out HPP.out).trans HPB.out
        have HA := Lib.hid (ac_end H.out hE ht); clear ht HT6 hE
        have hpart := part_base w7 pb hp7
        have HP7 := Lib.hid hp7; clear hp7
        go_wp2_with fail
        obtain ⟨v', l', hac, hens, -⟩ := HA.out
        refine (base_ArrayComp _ base nb lb n P Q v' l' hac (fun x hx => by
          rcases hens x hx with ⟨_, a⟩ | ⟨_, a⟩
          · exact a.kinds (HKD.out x hx)
          · rw [a]; exact HKD.out x hx) _ pb HP7.out _).mono ?_
        rintro e w8 ⟨rfl, k8⟩
        have K8 := Lib.hid k8; clear k8 hac hens
        go_wp2_with fail
        go_end0
        exact ⟨rfl, HA.out.kept K8.out hb⟩
      · have t3d : decide (0 < T3) = false := by simp [t3]
        have T3D := Lib.hid t3d; clear t3d
        have c0 := K3.out.cell C0.out (by simp)
        go_wp2_with fail
        refine (openF_LiteralNull _ lb).mono ?_
        rintro e w4 ⟨rfl, rfl⟩
        go_wp2_with fail
        refine (ac_step H.out hb HL.out (FamTI.start H.out.fam K3.out hb (fun _ => False) (fun _ _ h => h)) (n, 1) (Or.inr (Or.inr rfl)) (fun h => h) lb 0 (acp_b P n nb lb)).mono ?_
        rintro e w5 ⟨rfl, ht⟩
        have HT5 := Lib.hid ht; clear ht c0
        go_wp2_with fail
        refine (ac_spec H.out hb HL.out HT5.out).mono ?_
        rintro e w6 ⟨rfl, ht⟩
        have HT6 := Lib.hid ht; clear ht HT5
        go_wp2_with fail
        refine (ac_step H.out hb HL.out HT6.out (n, 0) (Or.inr (Or.inl rfl)) (fun h => by rcases h with (h | h) | h; exact h; simp at h; exact absurd h.1 (Nat.lt_irrefl _)) nb 9 (acp_c P n nb lb)).mono ?_
        rintro e w7 ⟨rfl, ht⟩
        have hE : acE P l n = true := by unfold acE; rw [HT1.out, HT2.out, HT3.out]; rw [T1D.out, T3D.out]; rfl
        have hp7 : IsPass w7 pb := (ht.same.blk pb HPQ.out HPP.out).trans HPB.out
        have HA := Lib.hid (ac_end H.out hE ht); clear ht HT6 hE
        have hpart := part_base w7 pb hp7
        have HP7 := Lib.hid hp7; clear hp7
        go_wp2_with fail
        obtain ⟨v', l', hac, hens, -⟩ := HA.out
        refine (base_ArrayComp _ base nb lb n P Q v' l' hac (fun x hx => by
          rcases hens x hx with ⟨_, a⟩ | ⟨_, a⟩
          · exact a.kinds (HKD.out x hx)
          · rw [a]; exact HKD.out x hx) _ pb HP7.out _).mono ?_
        rintro e w8 ⟨rfl, k8⟩
        have K8 := Lib.hid k8; clear k8 hac hens
        go_wp2_with fail
        go_end0
        exact ⟨rfl, HA.out.kept K8.out hb⟩
  · have t1d : decide (0 < T1) = false := by simp [t1]
    have T1D := Lib.hid t1d; clear t1d
    have d0 := K1.out.cell D0.out (by simp)
    have d1 := K1.out.cell D1.out (by simp)
    have d2 := K1.out.cell D2.out (by simp)
    have d3 := K1.out.cell D3.out (by simp)
    have d4 := K1.out.cell D4.out (by simp)
    have d5 := K1.out.cell D5.out (by simp)
    have d6 := K1.out.cell D6.out (by simp)
    go_wp2_with fail
    refine (HSH.out _ K1.out).mono ?_
    rintro e w2 ⟨rfl, k2⟩
    have K2 := Lib.hid (K1.out.trans k2); clear k2 d0 d1 d2 d3 d4 d5 d6
    obtain ⟨T2, hT2⟩ : ∃ T, chTo l P.m n = T := ⟨_, rfl⟩
    rw [hT2]
    have HT2 := Lib.hid hT2; clear hT2
    cases T2
    · skip
      have cc := K2.out.cell CCl.out (by simp)
      go_wp2_with fail
      refine (count_any _ base _ (l (n, 0)) (FC.out.kept K2.out (by simp)) (HKD.out _ (Or.inr (Or.inl rfl)))).mono ?_
      rintro e w3 ⟨rfl, k3⟩
      have K3 := Lib.hid (K2.out.trans k3); clear k3 cc
      obtain ⟨T3, hT3⟩ : ∃ T, sumNL (l (n, 0)) = T := ⟨_, rfl⟩
      rw [hT3]
      have HT3 := Lib.hid hT3; clear hT3
      by_cases t3 : 0 < T3
      · have t3d : decide (0 < T3) = true := by simp [t3]
        have T3D := Lib.hid t3d; clear t3d
        have c0 := K3.out.cell C0.out (by simp)
        go_wp2_with fail
        refine (openF_LiteralNull _ lb).mono ?_
        rintro e w4 ⟨rfl, rfl⟩
        go_wp2_with fail
        refine (ac_step H.out hb HL.out (FamTI.start H.out.fam K3.out hb (fun _ => False) (fun _ _ h => h)) (n, 1) (Or.inr (Or.inr rfl)) (fun h => h) lb 0 (acp_b P n nb lb)).mono ?_
        rintro e w5 ⟨rfl, ht⟩
        have HT5 := Lib.hid ht; clear ht c0
        go_wp2_with fail
        refine (ac_spec H.out hb HL.out HT5.out).mono ?_
        rintro e w6 ⟨rfl, ht⟩
        have HT6 := Lib.hid ht; clear ht HT5
        go_wp2_with fail
        refine (ac_step H.out hb HL.out HT6.out (n, 0) (Or.inr (Or.inl rfl)) (fun h => by rcases h with (h | h) | h; exact h; simp at h; exact absurd h.1 (Nat.lt_irrefl _)) nb 9 (acp_c P n nb lb)).mono ?_
        rintro e w7 ⟨rfl, ht⟩
        have hE : acE P l n = true := by unfold acE; rw [HT1.out, HT2.out, HT3.out]; rw [T1D.out, T3D.out]; rfl
        have hp7 : IsPass w7 pb := (ht.same.blk pb HPQ.out HPP.out).trans HPB.out
        have HA := Lib.hid (ac_end H.out hE ht); clear ht HT6 hE
        have hpart := part_base w7 pb hp7
        have HP7 := Lib.hid hp7; clear hp7
        go_wp2_with fail
        obtain ⟨v', l', hac, hens, -⟩ := HA.out
        refine (base_ArrayComp _ base nb lb n P Q v' l' hac (fun x hx => by
          rcases hens x hx with ⟨_, a⟩ | ⟨_, a⟩
          · exact a.kinds (HKD.out x hx)
          · rw [a]; exact HKD.out x hx) _ pb HP7.out _).mono ?_
        rintro e w8 ⟨rfl, k8⟩
        have K8 := Lib.hid k8; clear k8 hac hens
        go_wp2_with fail
        go_end0
        exact ⟨rfl, HA.out.kept K8.out hb⟩
      · have t3d : decide (0 < T3) = false := by simp [t3]
        have T3D := Lib.hid t3d; clear t3d
        have hE : acE P l n = false := by unfold acE; rw [HT1.out, HT2.out, HT3.out]; rw [T1D.out, T3D.out]; rfl
        have HA : Hid (ACTo w base nb lb n P Q l w3) := Lib.hid ⟨v, l, H.out.kept K3.out, fun x _ => Or.inr ⟨hE, rfl⟩, K3.out.below hb (by simp)⟩
        have hpart := part_base w3 pb (HPB.out.kept K3.out (by simp))
        clear hE
        go_wp2_with fail
        refine (base_ArrayComp _ base nb lb n P Q v l (H.out.kept K3.out) HKD.out _ pb (HPB.out.kept K3.out (by simp)) _).mono ?_
        rintro e w8 ⟨rfl, k8⟩
        have K8 := Lib.hid k8; clear k8
        go_wp2_with fail
        go_end0
        exact ⟨rfl, HA.out.kept K8.out hb⟩
    · skip
      have cc := K2.out.cell CCl.out (by simp)
      go_wp2_with fail
      refine (count_any _ base _ (l (n, 0)) (FC.out.kept K2.out (by simp)) (HKD.out _ (Or.inr (Or.inl rfl)))).mono ?_
      rintro e w3 ⟨rfl, k3⟩
      have K3 := Lib.hid (K2.out.trans k3); clear k3 cc
      obtain ⟨T3, hT3⟩ : ∃ T, sumNL (l (n, 0)) = T := ⟨_, rfl⟩
      rw [hT3]
      have HT3 := Lib.hid hT3; clear hT3
      by_cases t3 : 0 < T3
      · have t3d : decide (0 < T3) = true := by simp [t3]
        have T3D := Lib.hid t3d; clear t3d
        have c0 := K3.out.cell C0.out (by simp)
        go_wp2_with fail
        refine (openF_LiteralNull _ lb).mono ?_
        rintro e w4 ⟨rfl, rfl⟩
        go_wp2_with fail
        refine (ac_step H.out hb HL.out (FamTI.start H.out.fam K3.out hb (fun _ => False) (fun _ _ h => h)) (n, 1) (Or.inr (Or.inr rfl)) (fun h => h) lb 0 (acp_b P n nb lb)).mono ?_
        rintro e w5 ⟨rfl, ht⟩
        have HT5 := Lib.hid ht; clear ht c0
        go_wp2_with fail
        refine (ac_spec H.out hb HL.out HT5.out).mono ?_
        rintro e w6 ⟨rfl, ht⟩
        have HT6 := Lib.hid ht; clear ht HT5
        go_wp2_with fail
        refine (ac_step H.out hb HL.out HT6.out (n, 0) (Or.inr (Or.inl rfl)) (fun h => by rcases h with (h | h) | h; exact h; simp at h; exact absurd h.1 (Nat.lt_irrefl _)) nb 9 (acp_c P n nb lb)).mono ?_
        rintro e w7 ⟨rfl, ht⟩
        have hE : acE P l n = true := by unfold acE; rw [HT1.out, HT2.out, HT3.out]; rw [T1D.out, T3D.out]; rfl
        have hp7 : IsPass w7 pb := (ht.same.blk pb HPQ.out HPP.out).trans HPB.out
        have HA := Lib.hid (ac_end H.out hE ht); clear ht HT6 hE
        have hpart := part_base w7 pb hp7
        have HP7 := Lib.hid hp7; clear hp7
        go_wp2_with fail
        obtain ⟨v', l', hac, hens, -⟩ := HA.out
        refine (base_ArrayComp _ base nb lb n P Q v' l' hac (fun x hx => by
          rcases hens x hx with ⟨_, a⟩ | ⟨_, a⟩
          · exact a.kinds (HKD.out x hx)
          · rw [a]; exact HKD.out x hx) _ pb HP7.out _).mono ?_
        rintro e w8 ⟨rfl, k8⟩
        have K8 := Lib.hid k8; clear k8 hac hens
        go_wp2_with fail
        go_end0
        exact ⟨rfl, HA.out.kept K8.out hb⟩
      · have t3d : decide (0 < T3) = false := by simp [t3]
        have T3D := Lib.hid t3d; clear t3d
        have c0 := K3.out.cell C0.out (by simp)
        go_wp2_with fail
        refine (openF_LiteralNull _ lb).mono ?_
        rintro e w4 ⟨rfl, rfl⟩
        go_wp2_with fail
        refine (ac_step H.out hb HL.out (FamTI.start H.out.fam K3.out hb (fun _ => False) (fun _ _ h => h)) (n, 1) (Or.inr (Or.inr rfl)) (fun h => h) lb 0 (acp_b P n nb lb)).mono ?_
        rintro e w5 ⟨rfl, ht⟩
        have HT5 := Lib.hid ht; clear ht c0
        go_wp2_with fail
        refine (ac_spec H.out hb HL.out HT5.out).mono ?_
        rintro e w6 ⟨rfl, ht⟩
        have HT6 := Lib.hid ht; clear ht HT5
        go_wp2_with fail
        refine (ac_step H.out hb HL.out HT6.out (n, 0) (Or.inr (Or.inl rfl)) (fun h => by rcases h with (h | h) | h; exact h; simp at h; exact absurd h.1 (Nat.lt_irrefl _)) nb 9 (acp_c P n nb lb)).mono ?_
        rintro e w7 ⟨rfl, ht⟩
        have hE : acE P l n = true := by unfold acE; rw [HT1.out, HT2.out, HT3.out]; rw [T1D.out, T3D.out]; rfl
        have hp7 : IsPass w7 pb := (ht.same.blk pb HPQ.out HPP.out).trans HPB.out
        have HA := Lib.hid (ac_end H.out hE ht); clear ht HT6 hE
        have hpart := part_base w7 pb hp7
        have HP7 := Lib.hid hp7; clear hp7
        go_wp2_with fail
        obtain ⟨v', l', hac, hens, -⟩ := HA.out
        refine (base_ArrayComp _ base nb lb n P Q v' l' hac (fun x hx => by
          rcases hens x hx with ⟨_, a⟩ | ⟨_, a⟩
          · exact a.kinds (HKD.out x hx)
          · rw [a]; exact HKD.out x hx) _ pb HP7.out _).mono ?_
        rintro e w8 ⟨rfl, k8⟩
        have K8 := Lib.hid k8; clear k8 hac hens
        go_wp2_with fail
        go_end0
        exact ⟨rfl, HA.out.kept K8.out hb⟩

end Go.Proofs.YtgdipdbmllkckaaGreatFmt
