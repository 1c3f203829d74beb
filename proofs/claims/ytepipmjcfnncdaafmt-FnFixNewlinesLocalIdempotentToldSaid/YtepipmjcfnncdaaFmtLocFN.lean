/- The contracts of FixNewlines.Local and of its exported name, at a local whose bodies are variables. -/
import Derived.Test.YtepipmjcfnncdaaFmtLocNN
namespace Go.Proofs.YtepipmjcfnncdaaFmt
open Go.ChangeShapes Go.WideShapes Go.ChangeAt Go.RowKit

/-- One bare line end at the end, unless the fodder ends a line already. -/
def Ens (l l' : List FE) : Prop := (clean l = true ∧ l' = l) ∨ (clean l = false ∧ ∃ ca, l' = l ++ [⟨ca, 0, 0, 0, 0, 0⟩])
theorem clean_snoc (l : List FE) (e : FE) : clean (l ++ [e]) = (e.k != 1) := by unfold clean; simp
theorem Ens.clean {l l' : List FE} (h : Ens l l') : clean l' = true := by
  rcases h with ⟨h, rfl⟩ | ⟨_, ca, rfl⟩
  · exact h
  · rw [clean_snoc]; rfl
theorem Ens.kinds {l l' : List FE} (h : Ens l l') (hk : Kinds l) : Kinds l' := by
  rcases h with ⟨_, rfl⟩ | ⟨_, ca, rfl⟩
  · exact hk
  · exact hk.snoc _ (Or.inl rfl)
theorem Ens.len {l l' : List FE} (h : Ens l l') : l'.length ≤ l.length + 1 := by
  rcases h with ⟨_, rfl⟩ | ⟨_, ca, rfl⟩
  · omega
  · simp

/-- Does some of the first k fodders count a line break? -/
def expTo (l : Nat → List FE) (k : Nat) : Bool := (List.range k).any fun i => decide (0 < sumNL (l i))
theorem expTo_succ (l : Nat → List FE) (k : Nat) : expTo l (k + 1) = (expTo l k || decide (0 < sumNL (l k))) := by
  unfold expTo
  rw [List.range_succ, List.any_append]
  simp
theorem expTo_congr {l l' : Nat → List FE} {k : Nat} (h : ∀ i, i < k → l' i = l i) : expTo l' k = expTo l k := by
  induction k with
  | zero => rfl
  | succ k ih => rw [expTo_succ, expTo_succ, ih (fun i hi => h i (by omega)), h k (by omega)]

/-- How many fodders are looked at for their ends. -/
def upTo (l : Nat → List FE) (n : Nat) : Nat := if expTo l n then n else 0

/-- The first k fodders but the first of all are ended. -/
def Ended (k i : Nat) (l l' : List FE) : Prop := (0 < i ∧ i < k ∧ Ens l l') ∨ (¬ (0 < i ∧ i < k) ∧ l' = l)

/-- What is left of a local whose first k fodders have been ended. -/
def LocTo (w : World) (base nb eb xb n pb : Nat) (x : Nat → Nat) (v : Nat → Value) (l : Nat → List FE) (k : Nat) (w' : World) : Prop :=
  ∃ v' l', LocN w' base nb eb xb n x v' l' ∧ (∀ i, i < n → Ended k i (l i) (l' i)) ∧ (∀ i, i < n → ∀ g, (v' i).ownBlock = some g → (v i).ownBlock = some g ∨ w.heap.size ≤ g) ∧ Below base w w' ∧ IsPass w' pb ∧
    ((k = 0 ∨ ∀ i, 0 < i → i < n → clean (l i) = true) → Kept [] w w')

theorem LocTo.start {w w' : World} {base nb eb xb n pb : Nat} {x : Nat → Nat} {v : Nat → Value} {l : Nat → List FE} (h : LocN w base nb eb xb n x v l) (q : Kept [] w w') (hb : base ≤ w.heap.size) (hp : IsPass w pb) : LocTo w base nb eb xb n pb x v l 0 w' :=
  ⟨v, l, h.kept q, fun i _ => Or.inr ⟨by omega, rfl⟩, fun i _ g hg => Or.inl hg, q.below hb (by simp), hp.kept q (by simp), fun _ => q⟩
theorem LocTo.skip {w w' w'' : World} {base nb eb xb n pb : Nat} {x : Nat → Nat} {v : Nat → Value} {l : Nat → List FE} (h : LocTo w base nb eb xb n pb x v l 0 w') (q : Kept [] w' w'') (hb : base ≤ w.heap.size) : LocTo w base nb eb xb n pb x v l 1 w'' := by
  obtain ⟨v', l', h1, h2, h3, h4, h5, h6⟩ := h
  refine ⟨v', l', h1.kept q, fun i hi => ?_, h3, h4.trans (q.below (Nat.le_trans hb h4.size) (by simp)), h5.kept q (by simp), fun _ => (h6 (Or.inl rfl)).trans q⟩
  rcases h2 i hi with ⟨a, b, _⟩ | ⟨_, e⟩
  · omega
  · exact Or.inr ⟨by omega, e⟩
theorem LocTo.kept {w w' w'' : World} {base nb eb xb n pb k : Nat} {x : Nat → Nat} {v : Nat → Value} {l : Nat → List FE} (h : LocTo w base nb eb xb n pb x v l k w') (q : Kept [] w' w'') (hb : base ≤ w.heap.size) : LocTo w base nb eb xb n pb x v l k w'' := by
  obtain ⟨v', l', h1, h2, h3, h4, h5, h6⟩ := h
  exact ⟨v', l', h1.kept q, h2, h3, h4.trans (q.below (Nat.le_trans hb h4.size) (by simp)), h5.kept q (by simp), fun hc => (h6 hc).trans q⟩

theorem Appd.stay {w : World} {base pb po : Nat} {v : Value} {l : List FE} (h : Fod w base v l) (hp : w.cell? ⟨pb, po, none⟩ = some v) (hpf : w.frozen? ⟨pb, po, none⟩ = false) (hpv : ∀ g, v.ownBlock = some g → g ≠ pb) : Appd w base pb po v l w :=
  ⟨v, hp, hpf, h, Kept.refl _ _, fun g hg => ⟨hpv g hg, Or.inl hg⟩, ⟨fun _ _ => rfl, fun _ => rfl⟩⟩

/-- Fodder m of the local is ended. -/
theorem ensure_Loc (w : World) (base nb eb xb n pb m : Nat) (x : Nat → Nat) (v : Nat → Value) (l : Nat → List FE) (w0 : World) (ht : LocTo w0 base nb eb xb n pb x v l m w) (hm : m < n) (hm0 : 0 < m) (hl : ∀ i, i < n → clean (l i) = false → (l i).length ≤ 1048576) (hb : base ≤ w0.heap.size)
    (hps : ∀ i, i < n → (v i).ownBlock ≠ some pb) (hpe : pb ≠ eb) (hpl : pb < w0.heap.size) :
    Calls Tryf.prog 88 #[.pointer (some ⟨eb, m * 12, none⟩)] w fun e w' => e = .returned (.tuple #[]) ∧ LocTo w0 base nb eb xb n pb x v l (m + 1) w' := by
  obtain ⟨v', l', h1, h2, h3, h4, h5, h6⟩ := ht
  have hc : w.cell? ⟨eb, m * 12, none⟩ = some (v' m) := h1.cells m hm 0 (by omega)
  have e : l' m = l m := by
    rcases h2 m hm with ⟨_, b, _⟩ | ⟨_, e⟩
    · omega
    · exact e
  have hf := h1.fod m hm
  rw [e] at hf
  have hpv : ∀ g, (v' m).ownBlock = some g → g ≠ eb := fun g hg => (h1.sep m hm g hg).2.1
  have step : ∀ w' l1, Ens (l m) l1 → Appd w base eb (m * 12) (v' m) l1 w' → (clean (l m) = true → w = w') → LocTo w0 base nb eb xb n pb x v l (m + 1) w' := by
    intro w' l1 he ha hst
    obtain ⟨u, q1, q2, q3⟩ := h1.appd hm ha
    refine ⟨put v' m u, put l' m l1, q1, fun i hi => ?_, fun i hi g hg => ?_, ?_, ?_, fun hc => ?_⟩
    · by_cases him : i = m
      · subst him
        rw [put_same]
        exact Or.inl ⟨hm0, by omega, he⟩
      · rw [put_other _ _ _ him]
        rcases h2 i hi with ⟨a, b, c⟩ | ⟨a, c⟩
        · exact Or.inl ⟨a, by omega, c⟩
        · exact Or.inr ⟨by omega, c⟩
    · by_cases him : i = m
      · subst him
        rw [put_same] at hg
        rcases q3 g hg with e | e
        · exact h3 i hi g e
        · exact Or.inr (Nat.le_trans h4.size e)
      · rw [put_other _ _ _ him] at hg
        exact h3 i hi g hg
    · refine h4.trans (q2.below (Nat.le_trans hb h4.size) ?_)
      intro k hk
      simp at hk
      rcases hk with e | e
      · subst e; exact h1.be
      · exact (World.ownsRow.lt (h1.fod m hm) k e).1
    · refine h5.kept q2 ?_
      intro hk
      simp at hk
      rcases hk with e | e
      · exact hpe e
      · rcases h3 m hm pb e with e | e
        · exact hps m hm e
        · omega
    · have hc' := hc.resolve_left (by omega)
      have := hst (hc' m hm0 hm)
      subst this
      exact h6 (Or.inr hc')
  cases hcl : clean (l m)
  · refine (ensure_add w base eb (m * 12) (v' m) (l m) hf hc (h1.fr _) hpv (hl m hm hcl) (Nat.le_trans hb h4.size) hcl).mono ?_
    rintro e w' ⟨rfl, ca, ha⟩
    exact ⟨rfl, step w' _ (Or.inr ⟨hcl, ca, rfl⟩) ha (fun h => by rw [hcl] at h; cases h)⟩
  · refine (ensure_clean w base eb (m * 12) (v' m) (l m) hf hc hcl).mono ?_
    rintro e w' ⟨rfl, rfl⟩
    exact ⟨rfl, step w _ (Or.inl ⟨hcl, rfl⟩) (Appd.stay hf hc (h1.fr _) hpv) (fun _ => rfl)⟩

set_option maxRecDepth 100000 in
set_option maxHeartbeats 4000000 in
theorem fix_Local (w : World) (base nb eb xb n pb : Nat) (ctx : Value) (x : Nat → Nat) (v : Nat → Value) (l : Nat → List FE) (h : LocN w base nb eb xb n x v l) (hk : ∀ i, i < n → Kinds (l i)) (hl : ∀ i, i < n → clean (l i) = false → (l i).length ≤ 1048576) (hnb : n ≤ 1048576)
    (hpb : IsPass w pb) (hpe : pb ≠ eb) (hps : ∀ i, i < n → (v i).ownBlock ≠ some pb) (hb : base ≤ w.heap.size) :
    Calls Tryf.prog 74 #[.pointer (some ⟨pb, 0, none⟩), .iface 172 (.pointer (some ⟨pb, 0, none⟩)), .pointer (some ⟨nb, 0, none⟩), ctx] w fun e w' => e = .returned (.tuple #[]) ∧
      LocTo w base nb eb xb n pb x v l (upTo l n) w' := by
  have c0 := h.c0
  have H := Lib.hid h; clear h
  have HK := Lib.hid hk; clear hk
  have hpl : pb < w.heap.size := (Array.getElem?_eq_some_iff.1 hpb).1
  have HPB := Lib.hid hpb; clear hpb
  have HL := Lib.hid hl; clear hl
  have HPS := Lib.hid hps; clear hps
  go_enter Tryf.func74, Tryf.ntmps74
  go_wp2_with fail
  go_loopw [8, 17] (fun c i wr => ∃ k : Nat, k ≤ n ∧ i = .int .i64 k ∧ c = .bool (expTo l k) ∧ Kept [] w wr) (fun _ i _ => n - (intOf i).toNat)
  case atStart => exact ⟨0, Nat.zero_le _, rfl, rfl, Kept.refl _ _⟩
  case round =>
    obtain ⟨k, hk, rfl, rfl, hq⟩ := hrel
    have HQ := Lib.hid hq; clear hq
    by_cases hlt : k < n
    · have cel := (H.out.kept HQ.out).cells k hlt
      have e0 := cel 0 (by omega)
      have e1 := cel 1 (by omega)
      have e2 := cel 2 (by omega)
      have e3 := cel 3 (by omega)
      have e4 := cel 4 (by omega)
      have e5 := cel 5 (by omega)
      have e6 := cel 6 (by omega)
      have e7 := cel 7 (by omega)
      have e8 := cel 8 (by omega)
      have e9 := cel 9 (by omega)
      have e10 := cel 10 (by omega)
      have e11 := cel 11 (by omega)
      clear cel
      simp only [bndC, Nat.add_zero, List.getElem?_cons_succ, List.getElem?_cons_zero] at e0 e1 e2 e3 e4 e5 e6 e7 e8 e9 e10 e11
      have hes := expTo_succ l k
      obtain ⟨E, hE⟩ : ∃ E, expTo l k = E := ⟨_, rfl⟩
      rw [hE] at hes ⊢
      clear hE
      obtain ⟨T, hT⟩ : ∃ T, sumNL (l k) = T := ⟨_, rfl⟩
      rw [hT] at hes
      have HES := Lib.hid hes; clear hes
      have HT := Lib.hid hT; clear hT
      obtain ⟨va, vn, vc, hv⟩ := (H.out.fod k hlt).isSlice
      rw [hv] at e0
      have HV := Lib.hid hv; clear hv
      go_wp2_with fail
      have ka := fun o => HQ.out.alloc o
      refine (count_any _ base _ (l k) (HV.out ▸ ((H.out.fod k hlt).kept (ka _) (by simp))) (HK.out k hlt)).mono ?_
      rintro e w1 ⟨rfl, k1⟩
      rw [HT.out]
      have K1 := Lib.hid ((ka _).trans k1); clear ka k1
      by_cases hT0 : 0 < T
      · go_wp2_with fail
        go_roundw
        case rel => exact ⟨k + 1, by omega, by go_num, by rw [HES.out]; simp [hT0], K1.out⟩
        case measure => simp [intOf]; omega
      · go_wp2_with fail
        go_roundw
        case rel => exact ⟨k + 1, by omega, by go_num, by rw [HES.out, decide_eq_false (show ¬ 0 < T by omega), Bool.or_false], K1.out⟩
        case measure => simp [intOf]; omega
    · obtain rfl : k = n := by omega
      obtain ⟨E, hE⟩ : ∃ E, expTo l k = E := ⟨_, rfl⟩
      rw [hE]
      have HE := Lib.hid hE; clear hE
      cases E
      · have hpart := part_base wr pb (HPB.out.kept HQ.out (by simp))
        go_wp2_with fail
        refine (base_Local _ base _ pb nb eb xb k x v l (HPB.out.kept HQ.out (by simp)) _ (H.out.kept HQ.out) hnb).mono ?_
        rintro e w2 ⟨rfl, k2⟩
        have K2 := Lib.hid (HQ.out.trans k2); clear k2
        go_wp2_with fail
        go_end0
        refine ⟨rfl, ?_⟩
        rw [show upTo l k = 0 by unfold upTo; rw [HE.out]; rfl]
        exact LocTo.start H.out K2.out hb HPB.out
      · have d0 := HQ.out.cell c0 (by simp)
        go_wp2_with fail
        have h0 := Lib.hid (LocTo.start H.out HQ.out hb HPB.out)
        obtain ⟨wo, hwo⟩ : ∃ wo, wr = wo := ⟨_, rfl⟩
        rw [hwo] at d0 h0 ⊢
        clear hwo HQ
        go_loopw [32] (fun i wr => ∃ m : Nat, m ≤ k ∧ i = .int .i64 m ∧ LocTo w base nb eb xb k pb x v l m wr) (fun i _ => k - (intOf i).toNat)
        case atStart => exact ⟨0, Nat.zero_le _, rfl, h0.out⟩
        case round =>
          clear h0 d0
          obtain ⟨m, hm, rfl, ht⟩ := hrel
          have HT := Lib.hid ht; clear ht
          by_cases hlt : m < k
          · by_cases hm0 : m = 0
            · subst hm0
              go_wp2_with fail
              exact ⟨⟨1, by omega, by go_num, HT.out.skip (Kept.refl _ _) hb⟩, by simp [intOf]; omega⟩
            · have i0 : (0 : Int) < (m : Int) := by omega
              have i2 : (m : Int) < (k : Int) := by omega
              have d0 : wr.cell? ⟨nb, 0, none⟩ = some (.slice (some ⟨eb, 0, none⟩) k k) := by
                obtain ⟨_, _, h1, _⟩ := HT.out
                exact h1.c0
              go_wp2_with fail
              refine (ensure_Loc wr base nb eb xb k pb m x v l w HT.out hlt (by omega) HL.out hb HPS.out hpe hpl).mono ?_
              rintro e w1 ⟨rfl, ht1⟩
              have HT1 := Lib.hid ht1; clear ht1
              go_wp2_with fail
              exact ⟨⟨m + 1, by omega, by go_num, HT1.out⟩, by simp [intOf]; omega⟩
          · obtain rfl : m = k := by omega
            have hp : IsPass wr pb := by
              obtain ⟨_, _, _, _, _, _, h5, _⟩ := HT.out
              exact h5
            have hpart := part_base wr pb hp
            go_wp2_with fail
            obtain ⟨v', l', hn, -⟩ := HT.out
            refine (base_Local _ base _ pb nb eb xb m x v' l' hp _ hn hnb).mono ?_
            rintro e w2 ⟨rfl, k2⟩
            have K2 := Lib.hid k2; clear k2
            go_wp2_with fail
            go_end0
            refine ⟨rfl, ?_⟩
            rw [show upTo l m = m by unfold upTo; rw [HE.out]; rfl]
            exact HT.out.kept K2.out hb

set_option maxRecDepth 100000 in
set_option maxHeartbeats 4000000 in
theorem zzFixLocal (w : World) (base nb eb xb n : Nat) (x : Nat → Nat) (v : Nat → Value) (l : Nat → List FE) (h : LocN w base nb eb xb n x v l) (hk : ∀ i, i < n → Kinds (l i)) (hl : ∀ i, i < n → clean (l i) = false → (l i).length ≤ 1048576) (hnb : n ≤ 1048576) (hb : base ≤ w.heap.size) :
    Calls Tryf.prog 32 #[.pointer (some ⟨nb, 0, none⟩)] w fun e w' => e = .returned (.tuple #[]) ∧ ∃ v' l', LocN w' base nb eb xb n x v' l' ∧ (∀ i, i < n → Ended (upTo l n) i (l i) (l' i)) ∧ Below base w w' ∧
      ((upTo l n = 0 ∨ ∀ i, 0 < i → i < n → clean (l i) = true) → Kept [] w w') := by
  have H := Lib.hid h; clear h
  have HK := Lib.hid hk; clear hk
  have HL := Lib.hid hl; clear hl
  go_enter Tryf.func32, Tryf.ntmps32
  go_wp2_with fail
  have ka : Kept [] w (w.alloc (.cells #[] 173)) := (Kept.refl [] w).alloc _
  have hpb : IsPass (w.alloc (.cells #[] 173)) w.heap.size := heap_alloc_new w _
  have he := H.out.el
  refine (fix_Local _ base nb eb xb n w.heap.size _ x v l (H.out.kept ka) HK.out HL.out hnb hpb (by omega) (fun i hi e => by have := (World.ownsRow.lt (H.out.fod i hi) _ e).2; omega) (Nat.le_trans hb ka.size)).mono ?_
  rintro e w1 ⟨rfl, hA⟩
  have HA := Lib.hid hA; clear hA
  go_wp2_with fail
  go_end0
  obtain ⟨v', l', h1, h2, h3, h4, h5, h6⟩ := HA.out
  exact ⟨rfl, v', l', h1, h2, (ka.below hb (by simp)).trans h4, fun hc => ka.trans (h6 hc)⟩
end Go.Proofs.YtepipmjcfnncdaaFmt
