/- The walk of the law FnFixParensHalvesNestingAndKeepsComments: it returns true at every number and text, and writes nothing that was there. -/
import Derived.Test.YtepipmjcfnncdaaFmtPrHX
import Derived.Deep.RegionHeld3
namespace Go.Proofs.YtepipmjcfnncdaaFmt
open Go.ChangeShapes Go.WideShapes Go.ChangeAt Go.RowKit

set_option maxHeartbeats 1000000 in
theorem zzBytes_PrV (w : World) (k : Int) (s : ByteArray) (h0 : s.size ≤ 9223372036854775807) :
    Calls Tryf.prog 64 #[.int .i64 k, .string s] w (SomeBool w) := by
  go_enter Tryf.func64, Tryf.ntmps64
  go_wp2
  all_goals
    go_ret
    exact ⟨_, rfl, rfl⟩

theorem lab_size (c : UInt8) (k : Int) (h0 : 1 ≤ k) (h1 : k ≤ 4096) : (lab c k).size ≤ 1048576 := by
  unfold lab
  rw [dif_pos ⟨h0, h1⟩]
  exact (label_ex c k h0 h1).choose_spec.1

theorem strs1 {w : World} {g : Nat} {s : ByteArray} (h : w.heap[g]? = some (.cells #[.string s] 9 (0, 0))) (hs : s.size ≤ 1048576) : IsStrs w (some ⟨g, 0, none⟩) 1 1 [s] := by
  refine Or.inr ⟨_, rfl, Nat.le_refl _, by unfold maxLen; omega, rfl, fun i hi => ?_, fun t ht => ?_⟩
  · obtain rfl : i = 0 := by simp at hi; omega
    rw [add_off]
    exact cell_of_block h 0
  · simp at ht
    subst ht
    unfold maxLen
    omega
theorem strs2 {w : World} {g : Nat} {s t : ByteArray} (h : w.heap[g]? = some (.cells #[.string s, .string t] 9 (0, 0))) (hs : s.size ≤ 1048576) (ht : t.size ≤ 1048576) : IsStrs w (some ⟨g, 0, none⟩) 2 2 [s, t] := by
  refine Or.inr ⟨_, rfl, Nat.le_refl _, by unfold maxLen; omega, rfl, fun i hi => ?_, fun u hu => ?_⟩
  · rw [add_off]
    match i, hi with
    | 0, _ => exact cell_of_block h 0
    | 1, _ => exact cell_of_block h 1
  · simp at hu
    unfold maxLen
    rcases hu with rfl | rfl <;> omega

theorem label_at (w : World) (c : UInt8) (A k : Int) (h : A = k) (h0 : 1 ≤ k) (h1 : k ≤ 4096) : Calls Tryf.prog 65 #[.string ⟨#[c]⟩, .int .i64 A] w fun e w' => e = .returned (.string (lab c k)) ∧ Kept [] w w' := by
  subst h
  exact label_any w c A h0 h1

/-- Before a level of the check: what the pointer in hand leads to. -/
def Chk (w : World) (base B x S n m q : Nat) : Prop :=
  (m < S ∧ ∃ L r, q = L.q ∧ Nst w base x (L :: r) ∧ HL w B (n - 2 * m) (L :: r)) ∨ (m = S ∧ w.cell? ⟨q, 0, none⟩ = some (varI x))
theorem Chk.kept {w w' : World} {base B x S n m q : Nat} (h : Chk w base B x S n m q) (k : Kept [] w w') : Chk w' base B x S n m q := by
  rcases h with ⟨h1, L, r, h2, h3, h4⟩ | ⟨h1, h2⟩
  · exact Or.inl ⟨h1, L, r, h2, h3.kept k (by simp), HL.kept k (by simp) _ _ h4⟩
  · exact Or.inr ⟨h1, k.cell h2 (by simp)⟩

namespace fnFixParensHalvesNestingAndKeepsComments
set_option maxRecDepth 100000 in
set_option maxHeartbeats 8000000 in
theorem walk (a0 : Int) (a1 : ByteArray) (w : World) (_ : (Lit.int .i64 a0).wf = true) (w1 : a1.size ≤ maxLen) :
    Calls Tryf.prog 12 #[.int .i64 a0, .string a1] w fun e w' => e = .returned (.bool true) ∧ Below w.heap.size w w' := by
  unfold maxLen at w1
  by_cases g1 : a0 < 1
  · go_enter Tryf.func12, Tryf.ntmps12
    go_wp2_with fail
    refine (zzBytes_PrV _ _ _ w1).mono ?_
    rintro e w' ⟨b, rfl, rfl⟩
    cases b
    all_goals
      go_wp2_with fail
      go_ret
      exact ⟨rfl, Below.refl _ _⟩
  by_cases g2 : 4096 < a0
  · go_enter Tryf.func12, Tryf.ntmps12
    go_wp2_with fail
    refine (zzBytes_PrV _ _ _ w1).mono ?_
    rintro e w' ⟨b, rfl, rfl⟩
    cases b
    all_goals
      go_wp2_with fail
      go_ret
      exact ⟨rfl, Below.refl _ _⟩
  obtain ⟨n, rfl⟩ : ∃ n : Nat, a0 = n := ⟨a0.toNat, by omega⟩
  have n1 : 1 ≤ n := by omega
  have n2 : n ≤ 4096 := by omega
  clear g1 g2
  obtain ⟨B, hB⟩ : ∃ B, w.heap.size = B := ⟨_, rfl⟩
  have HB := Lib.hid hB; clear hB
  have heq := fun (w : World) (a : Option Addr) (l c : Nat) => Lib.run_eql_slice_nil (P := Tryf.prog) w 117 9 a l c 0 0 Tryf.underlying117
  go_enter Tryf.func12, Tryf.ntmps12
  go_wp2_with fail
  refine (zzBytes_PrV _ _ _ w1).mono ?_
  rintro e w' ⟨b, rfl, rfl⟩
  cases b
  · go_wp2_with fail
    go_ret
    exact ⟨rfl, Below.refl _ _⟩
  by_cases g3 : 1048576 < a1.size
  · go_wp2_with fail
    go_ret
    exact ⟨rfl, Below.refl _ _⟩
  go_wp2_with fail
  have hv0 := heap_alloc_new w (.cells #[.string ⟨#[118]⟩] 9)
  obtain ⟨V, hV⟩ : ∃ V, w.heap.size = V := ⟨_, rfl⟩
  have HV := Lib.hid hV
  have HV0 := Lib.hid hv0; clear hv0
  refine (interstitials_any _ _ _ _ [⟨#[118]⟩] (strs1 HV0.out (by decide)) (by omega)).mono ?_
  rintro e wa ⟨ve, le, rfl, he, ne, ka⟩
  obtain ⟨ea, ec, rfl, -⟩ := he.slice
  clear hV
  have hb0 : BN w (wa.alloc (varOb a1 (.slice ea le.length ec))) a1 wa.heap.size (.slice ea le.length ec) le [] := by
    have q0 : Kept [] w wa := ((Kept.refl [] w).alloc _).trans ka
    have q1 := q0.alloc (varOb a1 (.slice ea le.length ec))
    have q2 : Kept [] wa (wa.alloc (varOb a1 (.slice ea le.length ec))) := (Kept.refl [] wa).alloc _
    have bx := heap_alloc_new wa (varOb a1 (.slice ea le.length ec))
    exact {
      k := q1
      nst := trivial
      nd := by simp [blocks]
      var := ⟨cell_of_block bx 1, frozen_of_block bx 1, (he.kept q2 (by simp)).low (by simp)⟩
      cid := cell_of_block bx 0
      xb := by simp [blocks]
      vx := fun g _ => by simp [blocks]
      ne := (ne.kept q2 (by simp)).low (by simp)
      lb := trivial
      low := fun b hb => by simp [blocks] at hb
      no := fun g t _ => by simp [blocks] }
  have hvs : (wa.alloc (varOb a1 (.slice ea le.length ec))).heap[w.heap.size]? = some (.cells #[.string ⟨#[118]⟩] 9 (0, 0)) := (ka.alloc _).heap HV0.out (by simp)
  have BN0 := Lib.hid hb0; clear hb0
  have VS := Lib.hid hvs; clear hvs
  obtain ⟨x, hx⟩ : ∃ x, wa.heap.size = x := ⟨_, rfl⟩
  clear he ne ka HV0
  go_wp2_with fail
  refine (label_any _ 111 1 (by omega) (by omega)).mono ?_
  rintro e wb ⟨rfl, kb⟩
  have KB := Lib.hid kb; clear kb
  go_wp2_with fail
  refine (interstitials_any _ _ _ _ [lab 111 1] (strs1 (heap_alloc_new wb _) (lab_size _ _ (by omega) (by omega))) (by omega)).mono ?_
  rintro e wc ⟨vo, lo, rfl, ho, no, kc⟩
  obtain ⟨oa, oc, rfl, -⟩ := ho.slice
  have HO := Lib.hid ho; clear ho
  have NO := Lib.hid no; clear no
  have KC := Lib.hid kc; clear kc
  go_wp2_with fail
  refine (label_any _ 99 1 (by omega) (by omega)).mono ?_
  rintro e wd ⟨rfl, kd⟩
  have KD := Lib.hid kd; clear kd
  go_wp2_with fail
  refine (interstitials_any _ _ _ _ [lab 99 1] (strs1 (heap_alloc_new wd _) (lab_size _ _ (by omega) (by omega))) (by omega)).mono ?_
  rintro e we ⟨vc, lc, rfl, hc, nc, ke⟩
  obtain ⟨ca, cc, rfl, -⟩ := hc.slice
  have HC := Lib.hid hc; clear hc
  have NC := Lib.hid nc; clear nc
  have KE := Lib.hid ke; clear ke
  go_wp2_with fail
  refine (zzParVar _ _ _ _ _ _ _ _).mono ?_
  rintro e w' ⟨rfl, rfl⟩
  have hb1 := BN0.out.step (vo := .slice oa lo.length oc) (vc := .slice ca lc.length cc) ((KB.out.alloc _).trans KC.out) HO.out (by have := KB.out.size; simp only [World.size_alloc] at this ⊢; omega) (by simpa using NO.out)
    ((KD.out.alloc _).trans KE.out) HC.out (by have := KD.out.size; simp only [World.size_alloc]; omega) (by simpa using NC.out)
  have hkk : Kept [] (wa.alloc (varOb a1 (.slice ea le.length ec))) (we.alloc (parOb (varI wa.heap.size) (.slice ca lc.length cc) (.slice oa lo.length oc))) := ((((KB.out.alloc _).trans KC.out).trans ((KD.out.alloc _).trans KE.out))).alloc _
  have vs := VS.out
  obtain ⟨W0, hW0⟩ : ∃ W0, wa.alloc (varOb a1 (.slice ea le.length ec)) = W0 := ⟨_, rfl⟩
  rw [hx] at hb1 hkk
  rw [hW0] at hkk vs
  have BN1 := Lib.hid hb1; clear hb1
  have HKK := Lib.hid hkk; clear hkk
  have VS0 := Lib.hid vs; clear vs VS
  clear KB HO NO KC KD HC NC KE BN0 hx hW0
  go_wp2_with fail
  go_loopw [7, 8] (fun q i wr => ∃ (m : Nat) (L : Lv) (r : List Lv), 1 ≤ m ∧ m ≤ n ∧ i = .int .i64 ((m : Int) + 1) ∧ q = .pointer (some ⟨L.q, 0, none⟩) ∧ (L :: r).length = m ∧ BN w wr a1 x (.slice ea le.length ec) le (L :: r) ∧ Kept [] W0 wr) (fun _ i _ => n + 1 - (intOf i).toNat)
  case atStart => exact ⟨1, _, [], Nat.le_refl _, n1, rfl, rfl, rfl, BN1.out, HKK.out⟩
  case round =>
    clear BN1 HKK
    obtain ⟨m, L, r, hm1, hm2, rfl, rfl, hlen, hbn, hk0⟩ := hrel
    have HBN := Lib.hid hbn; clear hbn
    have HK0 := Lib.hid hk0; clear hk0
    have hlab : ((L :: r).length : Int) + 1 = (m : Int) + 1 := by rw [hlen]
    have HLAB := Lib.hid hlab; clear hlab
    have HLEN := Lib.hid hlen; clear hlen
    obtain ⟨Q, hQ⟩ : ∃ Q, L.q = Q := ⟨_, rfl⟩
    rw [hQ]
    have HQ := Lib.hid hQ; clear hQ
    by_cases hlt : m < n
    · have i1 : (m : Int) + 1 ≤ (n : Int) := by omega
      go_wp2_with fail
      refine (label_any _ 111 ((m : Int) + 1) (by omega) (by omega)).mono ?_
      rintro e wb ⟨rfl, kb⟩
      have KB := Lib.hid kb; clear kb
      go_wp2_with fail
      refine (interstitials_any _ _ _ _ [lab 111 ((m : Int) + 1)] (strs1 (heap_alloc_new wb _) (lab_size _ _ (by omega) (by omega))) (by omega)).mono ?_
      rintro e wc ⟨vo, lo, rfl, ho, no, kc⟩
      obtain ⟨oa, oc, rfl, -⟩ := ho.slice
      have HO := Lib.hid ho; clear ho
      have NO := Lib.hid no; clear no
      have KC := Lib.hid kc; clear kc
      go_wp2_with fail
      refine (label_any _ 99 ((m : Int) + 1) (by omega) (by omega)).mono ?_
      rintro e wd ⟨rfl, kd⟩
      have KD := Lib.hid kd; clear kd
      go_wp2_with fail
      refine (interstitials_any _ _ _ _ [lab 99 ((m : Int) + 1)] (strs1 (heap_alloc_new wd _) (lab_size _ _ (by omega) (by omega))) (by omega)).mono ?_
      rintro e wf ⟨vc, lc, rfl, hc, nc, ke⟩
      obtain ⟨ca, cc, rfl, -⟩ := hc.slice
      have HC := Lib.hid hc; clear hc
      have NC := Lib.hid nc; clear nc
      have KE := Lib.hid ke; clear ke
      go_wp2_with fail
      refine (zzParPar _ _ _ _ _ _ _ _).mono ?_
      rintro e w' ⟨rfl, rfl⟩
      have hb2 := HBN.out.step (vo := .slice oa lo.length oc) (vc := .slice ca lc.length cc) ((KB.out.alloc _).trans KC.out) HO.out (by have := KB.out.size; simp only [World.size_alloc]; omega) (by rw [HLAB.out]; simpa using NO.out)
        ((KD.out.alloc _).trans KE.out) HC.out (by have := KD.out.size; simp only [World.size_alloc]; omega) (by rw [HLAB.out]; simpa using NC.out)
      have hkk := HK0.out.trans (((((KB.out.alloc _).trans KC.out).trans ((KD.out.alloc _).trans KE.out))).alloc (parOb (nodeOf x (L :: r)) (.slice ca lc.length cc) (.slice oa lo.length oc)))
      rw [show nodeOf x (L :: r) = parI Q by rw [← HQ.out]; rfl] at hb2 hkk
      have BN2 := Lib.hid hb2; clear hb2
      have HKK := Lib.hid hkk; clear hkk
      clear KB HO NO KC KD HC NC KE
      go_wp2_with fail
      exact ⟨⟨m + 1, _, L :: r, by omega, by omega, by go_num, rfl, by rw [List.length_cons, HLEN.out], BN2.out, HKK.out⟩, by simp [intOf]; omega⟩
    · obtain rfl : m = n := by omega
      go_wp2_with fail
      have hz := zzFixPar wr L r w.heap.size x _ le HBN.out.nst HBN.out.lb.shorts HBN.out.nd HBN.out.var HBN.out.xb HBN.out.vx HBN.out.k.size
      rw [HQ.out] at hz
      refine hz.mono ?_
      rintro e w6 ⟨rfl, lv', h1, h2, h3, h4, -⟩
      have hl6 := halved_lab w6 w.heap.size _ (L :: r) lv' (Nat.le_refl _) (HBN.out.lb.kept h4 (fun g t h _ => HBN.out.no g t h)) h3
      rw [HLEN.out] at hl6
      obtain ⟨L', r', rfl, hq'⟩ : ∃ L' r', lv' = L' :: r' ∧ L'.q = Q := by
        cases lv' with
        | nil => simp [nodeOf] at h2
        | cons L' r' => exact ⟨L', r', rfl, by simpa [nodeOf, HQ.out] using h2⟩
      obtain ⟨S, hS⟩ : ∃ S : Nat, (m + 1) / 2 = S := ⟨_, rfl⟩
      have hSd : ((m : Int) + 1).tdiv 2 = (S : Int) := by rw [Int.tdiv_eq_ediv_of_nonneg (by omega)]; omega
      have hck : Chk w6 w.heap.size w.heap.size x S m 0 Q := Or.inl ⟨by omega, L', r', hq'.symm, h1, hl6⟩
      have hvar := HBN.out.var.kept h4 HBN.out.xb HBN.out.vx
      have hcid := h4.cell HBN.out.cid (by exact HBN.out.xb)
      have hne := HBN.out.ne.kept h4 (fun g t h _ => HBN.out.no g t h)
      have hvb := h4.heap (HK0.out.heap VS0.out (by simp)) (HBN.out.no _ _ (HK0.out.heap VS0.out (by simp)))
      have hbel : Below w.heap.size w w6 := (HBN.out.k.below (Nat.le_refl _) (by simp)).trans (h4.below HBN.out.k.size HBN.out.low)
      have CK := Lib.hid hck; clear hck
      have HVR := Lib.hid hvar; clear hvar
      have HCD := Lib.hid hcid; clear hcid
      have HNE := Lib.hid hne; clear hne
      have HVB := Lib.hid hvb; clear hvb
      have HBL := Lib.hid hbel; clear hbel
      have hSb : S ≤ 2048 := by omega
      have hS1 : 1 ≤ S := by omega
      have HS := Lib.hid hS; clear hS
      clear h1 h2 h3 h4 hl6 hq' hz HBN HK0 HLAB HLEN VS0 HQ
      go_wp2_with fail
      go_loopw [10, 11] (fun c i wr => ∃ j q : Nat, j ≤ S ∧ i = .int .i64 j ∧ c = .pointer (some ⟨q, 0, none⟩) ∧ Kept [] w6 wr ∧ Chk wr w.heap.size w.heap.size x S m j q) (fun _ i _ => S - (intOf i).toNat)
      case atStart => exact ⟨0, Q, Nat.zero_le _, rfl, rfl, Kept.refl _ _, CK.out⟩
      case round =>
        clear CK
        obtain ⟨j, q, hj, rfl, rfl, hkq, hch⟩ := hrel
        have HKQ := Lib.hid hkq; clear hkq
        by_cases hlt : j < S
        · rcases hch with ⟨-, L2, r2, rfl, hn2, hl2⟩ | ⟨e, -⟩
          · have hm2 : 2 * j < m := by have := HS.out; omega
            obtain ⟨c0, c1, c2, -, f1, f2, hnr⟩ := hn2
            obtain ⟨Q2, hQ2⟩ : ∃ Q, L2.q = Q := ⟨_, rfl⟩
            rw [hQ2] at c0 c1 c2 ⊢
            have HQ2 := Lib.hid hQ2; clear hQ2
            obtain ⟨oa, oc, ho, -⟩ := f1.slice
            obtain ⟨pa, pc, hp, -⟩ := f2.slice
            rw [ho] at c2 f1
            rw [hp] at c1 f2
            clear ho hp
            have F1 := Lib.hid f1; clear f1
            have F2 := Lib.hid f2; clear f2
            have HNR := Lib.hid hnr; clear hnr
            by_cases hK : m - 2 * j = 1
            · rw [hK] at hl2
              obtain ⟨L3, e3, n3, n4⟩ := hl2
              obtain ⟨rfl, rfl⟩ : L2 = L3 ∧ r2 = [] := by simpa using e3
              have N3 := Lib.hid n3; clear n3
              have N4 := Lib.hid n4; clear n4
              have hd : (m : Int) - 2 * (j : Int) = 1 := by omega
              have hjs : ¬ ((j : Int) < (S : Int) - 1) := by have := HS.out; omega
              have C0 := Lib.hid c0
              have C1 := Lib.hid c1
              clear c0 c1 e3
              have CC := Lib.hid c2
              have kr := Kept.refl [] wr
              go_wp2_with fail
              go_region_held3 (fun w' => w'.cell? ⟨Q2, 2, none⟩ = some (.slice oa L2.lo.length oc) ∧ Kept [] wr w')
                ((try go_split_ands; refine (fun h : Kept [] wr _ => ⟨h.cell CC.out (by simp), h⟩) ?_; first | assumption | exact Kept.trans (by assumption) k2 | exact Kept.trans (Kept.drew (by assumption)) k2 | exact Kept.alloc (by assumption) _ | exact Kept.alloc (Kept.trans (by assumption) k2) _ | exact Kept.drew (by assumption)))
                (first
                | (go_at_call 65; refine (label_at _ 111 _ (1) (by first | omega | simp [*]) (by omega) (by omega)).mono ?_; rintro e w2 ⟨rfl, k2⟩)
                | (go_at_call 47; try go_split_ands; refine (fodderIs_any _ w.heap.size _ L2.lo w.heap.size _ _ _ [lab 111 (1)] _ _ _ [] (F1.out.kept (S := []) (by first | assumption | exact Kept.alloc (by assumption) _ | exact Kept.trans (by assumption) k2 | exact Kept.alloc (Kept.trans (by assumption) k2) _) (by simp)) (by simpa using N3.out.kept (S := []) (by first | assumption | exact Kept.alloc (by assumption) _ | exact Kept.trans (by assumption) k2 | exact Kept.alloc (Kept.trans (by assumption) k2) _) (by simp)) (strs1 (heap_alloc_new _ _) (lab_size _ _ (by omega) (by omega))) (Or.inl ⟨rfl, rfl, rfl, rfl⟩) (by omega)).mono ?_; rintro e wq ⟨rfl, k2⟩))
              all_goals
                try go_split_ands
                have kA : Kept [] wr wq := by assumption
                have c1 := kA.cell C1.out (by simp)
                have KA := Lib.hid kA
                have CD := Lib.hid c1
                have F2 := Lib.hid (F2.out.kept kA (by simp))
                have N4 := Lib.hid (N4.out.kept kA (by simp))
                clear kA F1 N3
                have kr := Kept.refl [] wq
                go_wp2_with fail
                go_region_held3 (fun w' => w'.cell? ⟨Q2, 1, none⟩ = some (.slice pa L2.lc.length pc) ∧ Kept [] wq w')
                  ((try go_split_ands; refine (fun h : Kept [] wq _ => ⟨h.cell CD.out (by simp), h⟩) ?_; first | assumption | exact Kept.trans (by assumption) k2 | exact Kept.trans (Kept.drew (by assumption)) k2 | exact Kept.alloc (by assumption) _ | exact Kept.alloc (Kept.trans (by assumption) k2) _ | exact Kept.drew (by assumption)))
                  (first
                  | (go_at_call 65; refine (label_at _ 99 _ (1) (by first | omega | simp [*]) (by omega) (by omega)).mono ?_; rintro e w2 ⟨rfl, k2⟩)
                  | (go_at_call 47; try go_split_ands; refine (fodderIs_any _ w.heap.size _ L2.lc w.heap.size _ _ _ [lab 99 (1)] _ _ _ [] (F2.out.kept (S := []) (by first | assumption | exact Kept.alloc (by assumption) _ | exact Kept.trans (by assumption) k2 | exact Kept.alloc (Kept.trans (by assumption) k2) _) (by simp)) (by simpa using N4.out.kept (S := []) (by first | assumption | exact Kept.alloc (by assumption) _ | exact Kept.trans (by assumption) k2 | exact Kept.alloc (Kept.trans (by assumption) k2) _) (by simp)) (strs1 (heap_alloc_new _ _) (lab_size _ _ (by omega) (by omega))) (Or.inl ⟨rfl, rfl, rfl, rfl⟩) (by omega)).mono ?_; rintro e wz ⟨rfl, k2⟩))
                all_goals
                  try go_split_ands
                  have kB : Kept [] wq wz := by assumption
                  have KB := Lib.hid (KA.out.trans kB)
                  clear kB KA F2 N4 c1
                  have hS := HS.out
                  go_wp2_with fail
                  exact ⟨⟨j + 1, Q2, by omega, by go_num, rfl, HKQ.out.trans KB.out, Or.inr ⟨by omega, KB.out.cell C0.out (by simp)⟩⟩, by simp [intOf]; omega⟩
            · obtain ⟨k, hk⟩ : ∃ k, m - 2 * j = k + 2 := ⟨m - 2 * j - 2, by omega⟩
              rw [hk] at hl2
              obtain ⟨L3, r3, e3, n3, n4, hlr⟩ := hl2
              obtain ⟨rfl, rfl⟩ : L2 = L3 ∧ r2 = r3 := by simpa using e3
              obtain ⟨K, hK2⟩ : ∃ K : Int, (k : Int) + 2 = K := ⟨_, rfl⟩
              rw [show (k : Int) + 1 = K - 1 by omega, hK2] at n3 n4
              have N3 := Lib.hid n3; clear n3
              have N4 := Lib.hid n4; clear n4
              have HLR := Lib.hid hlr; clear hlr
              have hd : (m : Int) - 2 * (j : Int) = K := by omega
              have hK3 : 2 ≤ K := by omega
              have hK4 : K ≤ 4096 := by omega
              have HK2 := Lib.hid hK2; clear hK2
              clear e3
              have C0 := Lib.hid c0
              have C1 := Lib.hid c1
              clear c0 c1
              have HKK := Lib.hid hk; clear hk
              have hi2 : IntKind.i64.wrap (K - 1) = K - 1 := by rw [IntKind.wrap_i64]; omega
              have hi3 : wrap64 (K - 1) = K - 1 := by unfold wrap64; omega
              have CC := Lib.hid c2
              have kr := Kept.refl [] wr
              go_wp2_with fail
              go_region_held3 (fun w' => w'.cell? ⟨Q2, 2, none⟩ = some (.slice oa L2.lo.length oc) ∧ Kept [] wr w')
                ((try go_split_ands; refine (fun h : Kept [] wr _ => ⟨h.cell CC.out (by simp), h⟩) ?_; first | assumption | exact Kept.trans (by assumption) k2 | exact Kept.trans (Kept.drew (by assumption)) k2 | exact Kept.alloc (by assumption) _ | exact Kept.alloc (Kept.trans (by assumption) k2) _ | exact Kept.drew (by assumption)))
                (first
                | (go_at_call 65; refine (label_at _ 111 _ (K - 1) (by first | omega | simp [*]) (by omega) (by omega)).mono ?_; rintro e w2 ⟨rfl, k2⟩)
                | (go_at_call 65; refine (label_at _ 111 _ (K) (by first | omega | simp [*]) (by omega) (by omega)).mono ?_; rintro e w2 ⟨rfl, k2⟩)
                | (go_at_call 47; try go_split_ands; refine (fodderIs_any _ w.heap.size _ L2.lo w.heap.size _ _ _ [lab 111 (K - 1), lab 111 (K)] _ _ _ [] (F1.out.kept (S := []) (by first | assumption | exact Kept.alloc (by assumption) _ | exact Kept.trans (by assumption) k2 | exact Kept.alloc (Kept.trans (by assumption) k2) _) (by simp)) (by simpa using N3.out.kept (S := []) (by first | assumption | exact Kept.alloc (by assumption) _ | exact Kept.trans (by assumption) k2 | exact Kept.alloc (Kept.trans (by assumption) k2) _) (by simp)) (strs2 (heap_alloc_new _ _) (lab_size _ _ (by omega) (by omega)) (lab_size _ _ (by omega) (by omega))) (Or.inl ⟨rfl, rfl, rfl, rfl⟩) (by omega)).mono ?_; rintro e wq ⟨rfl, k2⟩))
              all_goals
                try go_split_ands
                have kA : Kept [] wr wq := by assumption
                have c1 := kA.cell C1.out (by simp)
                have KA := Lib.hid kA
                have CD := Lib.hid c1
                have F2 := Lib.hid (F2.out.kept kA (by simp))
                have N4 := Lib.hid (N4.out.kept kA (by simp))
                clear kA F1 N3
                have kr := Kept.refl [] wq
                go_wp2_with fail
                go_region_held3 (fun w' => w'.cell? ⟨Q2, 1, none⟩ = some (.slice pa L2.lc.length pc) ∧ Kept [] wq w')
                  ((try go_split_ands; refine (fun h : Kept [] wq _ => ⟨h.cell CD.out (by simp), h⟩) ?_; first | assumption | exact Kept.trans (by assumption) k2 | exact Kept.trans (Kept.drew (by assumption)) k2 | exact Kept.alloc (by assumption) _ | exact Kept.alloc (Kept.trans (by assumption) k2) _ | exact Kept.drew (by assumption)))
                  (first
                  | (go_at_call 65; refine (label_at _ 99 _ (K - 1) (by first | omega | simp [*]) (by omega) (by omega)).mono ?_; rintro e w2 ⟨rfl, k2⟩)
                  | (go_at_call 65; refine (label_at _ 99 _ (K) (by first | omega | simp [*]) (by omega) (by omega)).mono ?_; rintro e w2 ⟨rfl, k2⟩)
                  | (go_at_call 47; try go_split_ands; refine (fodderIs_any _ w.heap.size _ L2.lc w.heap.size _ _ _ [lab 99 (K - 1), lab 99 (K)] _ _ _ [] (F2.out.kept (S := []) (by first | assumption | exact Kept.alloc (by assumption) _ | exact Kept.trans (by assumption) k2 | exact Kept.alloc (Kept.trans (by assumption) k2) _) (by simp)) (by simpa using N4.out.kept (S := []) (by first | assumption | exact Kept.alloc (by assumption) _ | exact Kept.trans (by assumption) k2 | exact Kept.alloc (Kept.trans (by assumption) k2) _) (by simp)) (strs2 (heap_alloc_new _ _) (lab_size _ _ (by omega) (by omega)) (lab_size _ _ (by omega) (by omega))) (Or.inl ⟨rfl, rfl, rfl, rfl⟩) (by omega)).mono ?_; rintro e wz ⟨rfl, k2⟩))
                all_goals
                  try go_split_ands
                  have kB : Kept [] wq wz := by assumption
                  have KB := Lib.hid (KA.out.trans kB)
                  clear kB KA F2 N4 c1
                  have c0 := KB.out.cell C0.out (by simp)
                  have hS := HS.out
                  cases r2 with
                  | nil =>
                    by_cases hjs : (j : Int) < (S : Int) - 1
                    · have hl := HLR.out
                      exfalso
                      match k, hl, HKK.out with
                      | 0, _, hk => omega
                      | 1, hl, _ => simp [HL] at hl
                      | k + 2, hl, _ => simp [HL] at hl
                    · clear c0
                      go_wp2_with fail
                      exact ⟨⟨j + 1, Q2, by omega, by go_num, rfl, HKQ.out.trans KB.out, Or.inr ⟨by omega, KB.out.cell C0.out (by simp)⟩⟩, by simp [intOf]; omega⟩
                  | cons L4 r4 =>
                    have hk0 : k ≠ 0 := by
                      rintro rfl
                      have hl := HLR.out
                      simp [HL] at hl
                    have hkk := HKK.out
                    have hjs : (j : Int) < (S : Int) - 1 := by omega
                    have hke : m - 2 * (j + 1) = k := by omega
                    have hjm : j + 1 < S := by omega
                    have c0 : wz.cell? ⟨Q2, 0, none⟩ = some (parI L4.q) := c0
                    go_wp2_with fail
                    refine (zzInnerPar _ _ _ c0).mono ?_
                    rintro e w' ⟨rfl, rfl⟩
                    go_wp2_with fail
                    exact ⟨⟨j + 1, L4.q, by omega, by go_num, rfl, HKQ.out.trans KB.out, Or.inl ⟨hjm, L4, r4, rfl, HNR.out.kept KB.out (by simp), by rw [hke]; exact HL.kept KB.out (by simp) _ _ HLR.out⟩⟩, by simp [intOf]; omega⟩
          · omega
        · obtain rfl : j = S := by omega
          rcases hch with ⟨h, _⟩ | ⟨-, c0⟩
          · omega
          · have hks := HKQ.out.cell HCD.out (by simp)
            have hvk := HVR.out.kept HKQ.out (by simp) (by simp)
            obtain ⟨va, vcap, hva, -⟩ := hvk.h.slice
            have hv1 := hvk.c
            have HVK := Lib.hid hvk; clear hvk
            have hne' := HNE.out.kept HKQ.out (by simp)
            have HNQ := Lib.hid hne'; clear hne'
            have hvs := HKQ.out.heap HVB.out (by simp)
            have HVS := Lib.hid hvs; clear hvs
            go_wp2_with fail
            refine (zzInnerVar _ _ _ c0).mono ?_
            rintro e w' ⟨rfl, rfl⟩
            have e2 := fun w : World => neqVar w x
            go_wp2_with fail
            refine (fodderIs_any _ w.heap.size _ le w.heap.size _ _ _ [⟨#[118]⟩] _ _ _ [] HVK.out.h (by simpa using HNQ.out) (strs1 HVS.out (by decide)) (Or.inl ⟨rfl, rfl, rfl, rfl⟩) (by omega)).mono ?_
            rintro e w3 ⟨rfl, k3⟩
            go_wp2_with fail
            go_ret
            exact ⟨rfl, HBL.out.trans ((HKQ.out.trans k3).below (by have := HBL.out.size; omega) (by simp))⟩
end fnFixParensHalvesNestingAndKeepsComments
end Go.Proofs.YtepipmjcfnncdaaFmt
