/- The contracts of FixNewlines.Array and of its exported name, at an array of variables. -/
import Derived.Test.YtepipmjcfnncdaaFmtArNN
namespace Go.Proofs.YtepipmjcfnncdaaFmt
open Go.ChangeShapes Go.WideShapes Go.ChangeAt Go.RowKit

set_option maxRecDepth 100000 in
set_option maxHeartbeats 4000000 in
theorem fix_ArrayV (w : World) (base nb eb n pb vb : Nat) (ctx : Value) (x : Nat → Nat) (v : Nat → Value) (l : Nat → List FE) (h : ArrW w base nb eb n pb vb x v l) (hk : ∀ i, i < n + 1 → Kinds (l i)) (hl : ∀ i, i < n + 1 → clean (l i) = false → (l i).length ≤ 1048576) (hnb : n ≤ 1048576)
    (hb : base ≤ w.heap.size) :
    Calls Tryf.prog 79 #[.pointer (some ⟨pb, 0, none⟩), .iface 172 (.pointer (some ⟨pb, 0, none⟩)), .pointer (some ⟨nb, 0, none⟩), ctx] w fun e w' => e = .returned (.tuple #[]) ∧
      FamTo w base (n + 1) (pA n nb x) (QA nb eb n pb vb x) l (fun _ => expTo l (n + 1) = true) w' := by
  have c0 := h.c0
  have H := Lib.hid h; clear h
  have HK := Lib.hid hk; clear hk
  have HL := Lib.hid hl; clear hl
  go_enter Tryf.func79, Tryf.ntmps79
  go_wp2_with fail
  go_loopw [8, 17] (fun c i wr => ∃ k : Nat, k ≤ n ∧ i = .int .i64 k ∧ c = .bool (expTo l k) ∧ Kept [] w wr) (fun _ i _ => n - (intOf i).toNat)
  case atStart => exact ⟨0, Nat.zero_le _, rfl, rfl, Kept.refl _ _⟩
  case round =>
    obtain ⟨k, hk, rfl, rfl, hq⟩ := hrel
    have HQ := Lib.hid hq; clear hq
    by_cases hlt : k < n
    · have a := H.out.kept HQ.out
      have e0 := a.e0 k hlt
      have e1 := a.e1 k hlt
      have hes := expTo_succ l k
      obtain ⟨E, hE⟩ : ∃ E, expTo l k = E := ⟨_, rfl⟩
      rw [hE] at hes ⊢
      clear hE
      obtain ⟨T, hT⟩ : ∃ T, sumNL (l k) = T := ⟨_, rfl⟩
      rw [hT] at hes
      have HES := Lib.hid hes; clear hes
      have HT := Lib.hid hT; clear hT
      have fc := fun o => ((Kept.refl [] wr).alloc o).cell (a.fam.c k (by omega)) (by simp)
      simp only [pA_lt hlt] at fc
      obtain ⟨va, vn, vc, hv⟩ := (H.out.fam.fod k (by omega)).isSlice
      rw [hv] at fc
      have HV := Lib.hid hv; clear hv a
      go_wp2_with fail
      refine (openF_Var _ (x k)).mono ?_
      rintro e w' ⟨rfl, rfl⟩
      go_wp2_with fail
      have ka := fun o => HQ.out.alloc o
      refine (count_any _ base _ (l k) (HV.out ▸ ((H.out.fam.fod k (by omega)).kept (ka _) (by simp))) (HK.out k (by omega))).mono ?_
      rintro e w1 ⟨rfl, k1⟩
      rw [HT.out]
      have K1 := Lib.hid ((ka _).trans k1); clear ka k1
      by_cases hT0 : 0 < T
      · go_wp2_with fail
        go_roundw
        case rel => exact ⟨k + 1, by omega, by go_num, by rw [HES.out]; simp [hT0], K1.out⟩
        case measure => simp [intOf]; omega
      · go_wp2_with fail
        go_roundw
        case rel => exact ⟨k + 1, by omega, by go_num, by rw [HES.out, decide_eq_false (show ¬ 0 < T by omega), Bool.or_false], K1.out⟩
        case measure => simp [intOf]; omega
    · obtain rfl : k = n := by omega
      have a := H.out.kept HQ.out
      have fc := a.fam.c k (by omega)
      rw [pA_last] at fc
      obtain ⟨va, vn, vc, hv⟩ := (H.out.fam.fod k (by omega)).isSlice
      rw [hv] at fc
      have fd := a.fam.fod k (by omega)
      rw [hv] at fd
      have hes := expTo_succ l k
      obtain ⟨E, hE⟩ : ∃ E, expTo l k = E := ⟨_, rfl⟩
      rw [hE] at hes ⊢
      clear hE
      obtain ⟨T, hT⟩ : ∃ T, sumNL (l k) = T := ⟨_, rfl⟩
      rw [hT] at hes
      have HES := Lib.hid hes; clear hes
      have HT := Lib.hid hT; clear hT
      have FD := Lib.hid fd; clear fd hv a
      go_wp2_with fail
      refine (count_any _ base _ (l k) FD.out (HK.out k (by omega))).mono ?_
      rintro e w1 ⟨rfl, k1⟩
      rw [HT.out]
      have K1 := Lib.hid (HQ.out.trans k1); clear k1 FD HT HQ fc
      obtain ⟨X, hX⟩ : ∃ X, expTo l (k + 1) = X := ⟨_, rfl⟩
      have hx := HES.out
      rw [hX] at hx
      have HX := Lib.hid hX; clear hX HES
      have stay : ∀ w', Kept [] w w' → X = false → FamTo w base (k + 1) (pA k nb x) (QA nb eb k pb vb x) l (fun _ => expTo l (k + 1) = true) w' := fun w' q e => FamTo.start H.out.fam q hb _ (fun i hi => by rw [HX.out, e]; simp)
      have STAY := Lib.hid stay; clear stay
      by_cases hE : X = false
      · rw [hE] at hx
        have hx2 := hx.symm
        simp only [Bool.or_eq_false_iff, decide_eq_false_iff_not] at hx2
        obtain ⟨hE1, hE2⟩ := hx2
        subst hE1
        have HE := Lib.hid hE; clear hE hx
        have hpart := part_base w1 pb (H.out.kept K1.out).pass
        go_wp2_with fail
        refine (base_ArrayV _ base _ pb vb nb eb k x v l _ (H.out.kept K1.out) hnb).mono ?_
        rintro e w2 ⟨rfl, k2⟩
        have K2 := Lib.hid (K1.out.trans k2); clear k2
        go_wp2_with fail
        go_end0
        exact ⟨rfl, STAY.out _ K2.out HE.out⟩
      · rw [Bool.not_eq_false] at hE
        rw [hE] at hx
        have HE := Lib.hid hE; clear hE
        have d0 := K1.out.cell c0 (by simp)
        have hs0 : FamTo w base (k + 1) (pA k nb x) (QA nb eb k pb vb x) l (fun i => i < 0) w1 := FamTo.start H.out.fam K1.out hb _ (fun i _ => by omega)
        have HS0 := Lib.hid hs0; clear hs0
        by_cases hT0 : 0 < T
        · clear hx
          go_wp2_with fail
          go_loopw [41] (fun i wr => ∃ m : Nat, m ≤ k ∧ i = .int .i64 m ∧ FamTo w base (k + 1) (pA k nb x) (QA nb eb k pb vb x) l (fun i => i < m) wr) (fun i _ => k - (intOf i).toNat)
          case atStart => exact ⟨0, Nat.zero_le _, rfl, HS0.out⟩
          case round =>
            clear HS0 d0
            obtain ⟨m, hm, rfl, ht⟩ := hrel
            obtain ⟨v', l', ha⟩ := H.out.to ht
            have HT := Lib.hid ht; clear ht
            by_cases hlt : m < k
            · have d0 := ha.c0
              have e0 := ha.e0 m hlt
              clear ha
              have i1 : (0 : Int) ≤ (m : Int) := by omega
              have i2 : (m : Int) < (k : Int) := by omega
              go_wp2_with fail
              refine (openF_Var _ (x m)).mono ?_
              rintro e w' ⟨rfl, rfl⟩
              go_wp2_with fail
              have hen := ensure_Fam _ base (k + 1) m (pA k nb x) (QA nb eb k pb vb x) l (fun i => i < m) w HT.out (by omega) (by omega) (HL.out m (by omega)) hb
              rw [pA_lt hlt] at hen
              refine hen.mono ?_
              rintro e w2 ⟨rfl, ht⟩
              have HT2 := Lib.hid (ht.congr (D' := fun i => i < m + 1) (fun i _ => by omega)); clear ht hen
              go_wp2_with fail
              exact ⟨⟨m + 1, by omega, by go_num, HT2.out⟩, by simp [intOf]; omega⟩
            · obtain rfl : m = k := by omega
              clear ha
              go_wp2_with fail
              have hen := ensure_Fam _ base (m + 1) m (pA m nb x) (QA nb eb m pb vb x) l (fun i => i < m) w HT.out (by omega) (by omega) (HL.out m (by omega)) hb
              rw [pA_last] at hen
              refine hen.mono ?_
              rintro e w2 ⟨rfl, ht⟩
              have HT2 := Lib.hid (ht.congr (D' := fun _ => expTo l (m + 1) = true) (fun i hi => ⟨fun _ => HX.out.trans HE.out, fun _ => by omega⟩)); clear ht hen
              obtain ⟨v2, l2, ha2⟩ := H.out.to HT2.out
              have hpart := part_base w2 pb ha2.pass
              have HA2 := Lib.hid ha2; clear ha2
              go_wp2_with fail
              refine (base_ArrayV _ base _ pb vb nb eb m x v2 l2 _ HA2.out hnb).mono ?_
              rintro e w3 ⟨rfl, k3⟩
              have K3 := Lib.hid k3; clear k3
              go_wp2_with fail
              go_end0
              exact ⟨rfl, HT2.out.kept K3.out hb⟩
        · have hE1 : E = true := by
            rw [decide_eq_false hT0, Bool.or_false] at hx
            exact hx.symm
          subst hE1
          clear hx
          go_wp2_with fail
          go_loopw [41] (fun i wr => ∃ m : Nat, m ≤ k ∧ i = .int .i64 m ∧ FamTo w base (k + 1) (pA k nb x) (QA nb eb k pb vb x) l (fun i => i < m) wr) (fun i _ => k - (intOf i).toNat)
          case atStart => exact ⟨0, Nat.zero_le _, rfl, HS0.out⟩
          case round =>
            clear HS0 d0
            obtain ⟨m, hm, rfl, ht⟩ := hrel
            obtain ⟨v', l', ha⟩ := H.out.to ht
            have HT := Lib.hid ht; clear ht
            by_cases hlt : m < k
            · have d0 := ha.c0
              have e0 := ha.e0 m hlt
              clear ha
              have i1 : (0 : Int) ≤ (m : Int) := by omega
              have i2 : (m : Int) < (k : Int) := by omega
              go_wp2_with fail
              refine (openF_Var _ (x m)).mono ?_
              rintro e w' ⟨rfl, rfl⟩
              go_wp2_with fail
              have hen := ensure_Fam _ base (k + 1) m (pA k nb x) (QA nb eb k pb vb x) l (fun i => i < m) w HT.out (by omega) (by omega) (HL.out m (by omega)) hb
              rw [pA_lt hlt] at hen
              refine hen.mono ?_
              rintro e w2 ⟨rfl, ht⟩
              have HT2 := Lib.hid (ht.congr (D' := fun i => i < m + 1) (fun i _ => by omega)); clear ht hen
              go_wp2_with fail
              exact ⟨⟨m + 1, by omega, by go_num, HT2.out⟩, by simp [intOf]; omega⟩
            · obtain rfl : m = k := by omega
              clear ha
              go_wp2_with fail
              have hen := ensure_Fam _ base (m + 1) m (pA m nb x) (QA nb eb m pb vb x) l (fun i => i < m) w HT.out (by omega) (by omega) (HL.out m (by omega)) hb
              rw [pA_last] at hen
              refine hen.mono ?_
              rintro e w2 ⟨rfl, ht⟩
              have HT2 := Lib.hid (ht.congr (D' := fun _ => expTo l (m + 1) = true) (fun i hi => ⟨fun _ => HX.out.trans HE.out, fun _ => by omega⟩)); clear ht hen
              obtain ⟨v2, l2, ha2⟩ := H.out.to HT2.out
              have hpart := part_base w2 pb ha2.pass
              have HA2 := Lib.hid ha2; clear ha2
              go_wp2_with fail
              refine (base_ArrayV _ base _ pb vb nb eb m x v2 l2 _ HA2.out hnb).mono ?_
              rintro e w3 ⟨rfl, k3⟩
              have K3 := Lib.hid k3; clear k3
              go_wp2_with fail
              go_end0
              exact ⟨rfl, HT2.out.kept K3.out hb⟩

set_option maxRecDepth 100000 in
set_option maxHeartbeats 4000000 in
theorem zzFixArray (w : World) (base nb eb n vb : Nat) (x : Nat → Nat) (v : Nat → Value) (l : Nat → List FE) (h : ∀ w', Kept [] w w' → ∀ pb, w.heap.size ≤ pb → pb < w'.heap.size → IsPass w' pb → ArrW w' base nb eb n pb vb x v l) (hk : ∀ i, i < n + 1 → Kinds (l i)) (hl : ∀ i, i < n + 1 → clean (l i) = false → (l i).length ≤ 1048576)
    (hnb : n ≤ 1048576) (hb : base ≤ w.heap.size) :
    Calls Tryf.prog 39 #[.pointer (some ⟨nb, 0, none⟩)] w fun e w' => e = .returned (.tuple #[]) ∧ ∃ pb v' l', ArrW w' base nb eb n pb vb x v' l' ∧
      (∀ i, i < n + 1 → (expTo l (n + 1) = true ∧ Ens (l i) (l' i)) ∨ (¬ expTo l (n + 1) = true ∧ l' i = l i)) ∧ Below base w w' ∧ ((∀ i, i < n + 1 → expTo l (n + 1) = true → clean (l i) = true) → Kept [] w w') := by
  have H := Lib.hid h; clear h
  have HK := Lib.hid hk; clear hk
  have HL := Lib.hid hl; clear hl
  go_enter Tryf.func39, Tryf.ntmps39
  go_wp2_with fail
  have ka : Kept [] w (w.alloc (.cells #[] 173)) := (Kept.refl [] w).alloc _
  have hpb : IsPass (w.alloc (.cells #[] 173)) w.heap.size := heap_alloc_new w _
  have ha := H.out _ ka w.heap.size (Nat.le_refl _) (by simp) hpb
  refine (fix_ArrayV _ base nb eb n w.heap.size vb _ x v l ha HK.out HL.out hnb (Nat.le_trans hb ka.size)).mono ?_
  rintro e w1 ⟨rfl, hA⟩
  have HA := Lib.hid hA; clear hA
  have HH := Lib.hid ha; clear ha
  go_wp2_with fail
  go_end0
  obtain ⟨v', l', h1, h2, h3, h4, h5⟩ := HA.out
  exact ⟨rfl, w.heap.size, v', l', HH.out.same h1 h3, h2, (ka.below hb (by simp)).trans h4, fun hc => ka.trans (h5 hc)⟩
end Go.Proofs.YtepipmjcfnncdaaFmt
