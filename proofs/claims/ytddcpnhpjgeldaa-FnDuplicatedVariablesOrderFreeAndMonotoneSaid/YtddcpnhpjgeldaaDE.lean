/- The walk of the law FnDuplicatedVariablesExact: it returns true at every input, and writes nothing that was there. -/
import Derived.Test.YtddcpnhpjgeldaaZB1
import Derived.Laws.Strings
namespace Go.Proofs.Ytddcpnhpjgeldaa
open Go.ChangeShapes Go.WideShapes Go.ChangeAt Go.RowKit

/-- Within the first n strings no one before the i-th stands again later. -/
def NoDupTo (vs : List ByteArray) (n i : Nat) : Prop := ∀ p q : Nat, p < i → p < q → q < n → vs.getD p ByteArray.empty ≠ vs.getD q ByteArray.empty
def HasDup (vs : List ByteArray) (n : Nat) : Prop := ∃ p q : Nat, p < q ∧ q < n ∧ vs.getD p ByteArray.empty = vs.getD q ByteArray.empty
theorem beq_bytes {s t : ByteArray} (h : (s.toList == t.toList) = true) : s = t := by
  rw [beq_iff_eq, ByteArray.toList_eq, ByteArray.toList_eq] at h
  exact bytes_inj h
theorem nbeq_bytes {s t : ByteArray} (h : (s.toList == t.toList) = false) : s ≠ t := by
  rintro rfl
  simp at h
/-- What the search has found so far. -/
def Found (vs : List ByteArray) (n i : Nat) (b : Bool) : Prop := if b then HasDup vs n else NoDupTo vs n i
theorem getD_take {vs : List ByteArray} {n p : Nat} (hn : n ≤ vs.length) (hp : p < n) : (vs.take n)[p]'(by rw [List.length_take]; omega) = vs.getD p ByteArray.empty := by
  rw [List.getElem_take, List.getD_eq_getElem?_getD, List.getElem?_eq_getElem (by omega)]
  rfl
theorem found_dup {vs : List ByteArray} {n : Nat} (hn : n ≤ vs.length) (h : HasDup vs n) : ¬ (vs.take n).Nodup := by
  obtain ⟨p, q, h1, h2, h3⟩ := h
  intro hd
  have := List.pairwise_iff_getElem.1 hd p q (by rw [List.length_take]; omega) (by rw [List.length_take]; omega) h1
  rw [getD_take hn (by omega), getD_take hn h2] at this
  exact this h3
theorem found_no {vs : List ByteArray} {n : Nat} (hn : n ≤ vs.length) (h : NoDupTo vs n n) : (vs.take n).Nodup := by
  refine List.pairwise_iff_getElem.2 (fun p q hp hq hpq => ?_)
  rw [List.length_take] at hp hq
  rw [getD_take hn (by omega), getD_take hn (by omega)]
  exact h p q (by omega) hpq (by omega)
theorem found_end {vs : List ByteArray} {n : Nat} {b : Bool} (hn : n ≤ vs.length) (h : Found vs n n b) : decide (Maps.size (vset (vs.take n)) < (vs.take n).length) = b := by
  cases b
  · simp only [Found, Bool.false_eq_true, if_false] at h
    rw [decide_eq_false_iff_not, vset_lt]
    exact fun hx => hx (found_no hn h)
  · simp only [Found, if_true] at h
    rw [decide_eq_true_iff, vset_lt]
    exact found_dup hn h

namespace fnDuplicatedVariablesExact
set_option maxRecDepth 100000 in
set_option maxHeartbeats 8000000 in
theorem walk (a0 : Option Addr) (len0 cap0 : Nat) (z0 : List ByteArray) (a1 : Option Addr) (len1 cap1 : Nat) (z1 : List ByteArray) (w : World) (w0 : IsStrs w a0 len0 cap0 z0) (w1 : IsStrs w a1 len1 cap1 z1) :
    Calls Try.prog 4 #[.slice a0 len0 cap0, .slice a1 len1 cap1] w fun e w' => e = .returned (.bool true) ∧ Below w.heap.size w w' := by
  obtain ⟨le0, top0, hz0, hs0, hc0⟩ := w0.open
  obtain ⟨le1, top1, -, -, -⟩ := w1.open
  unfold maxLen at top0 top1
  have HZ := Lib.hid hz0; clear hz0
  have HS := Lib.hid hs0; clear hs0
  have HC := Lib.hid hc0; clear hc0
  have W0 := Lib.hid w0; clear w0
  have W1 := Lib.hid w1; clear w1
  go_enter Try.func4, Try.ntmps4
  go_wp2_with fail
  refine (zzB_FnDuplicatedVariablesExact _ _ _ _ z0 _ _ _ z1 W0.out W1.out).mono ?_
  rintro e w1 ⟨b, rfl, k1⟩
  have K1 := Lib.hid k1; clear k1
  cases b
  · go_wp2_with fail
    go_ret
    exact ⟨rfl, K1.out.below (Nat.le_refl _) (by simp)⟩
  by_cases g0 : 4096 < len0
  · go_wp2_with fail
    go_ret
    exact ⟨rfl, K1.out.below (Nat.le_refl _) (by simp)⟩
  by_cases g1 : 65536 < len1
  · go_wp2_with fail
    go_ret
    exact ⟨rfl, K1.out.below (Nat.le_refl _) (by simp)⟩
  go_wp2_with fail
  refine (strBytes_any _ _ _ _ z0 (K1.out.strs W0.out (by simp))).mono ?_
  rintro e w2 ⟨n0, b0, rfl, k2⟩
  have K2 := Lib.hid (K1.out.trans k2); clear k2 K1
  go_wp2_with fail
  refine (strBytes_any _ _ _ _ z1 (K2.out.strs W1.out (by simp))).mono ?_
  rintro e w3 ⟨n1, b1, rfl, k3⟩
  have K3 := Lib.hid (K2.out.trans k3); clear k3 K2
  cases b0
  · go_wp2_with fail
    go_ret
    exact ⟨rfl, K3.out.below (Nat.le_refl _) (by simp)⟩
  cases b1
  · go_wp2_with fail
    go_ret
    exact ⟨rfl, K3.out.below (Nat.le_refl _) (by simp)⟩
  obtain ⟨S, hS⟩ : ∃ S, wrap64 (n0 + n1) = S := ⟨_, rfl⟩
  by_cases g2 : 1048576 < S
  · go_wp2_with fail
    go_ret
    exact ⟨rfl, K3.out.below (Nat.le_refl _) (by simp)⟩
  clear hS
  go_wp2_with fail
  all_goals first
    | (go_ret; exact ⟨rfl, K3.out.below (Nat.le_refl _) (by simp)⟩)
    | skip
  refine (elemsFrom_nil _ _ _ _ z0 _ _ _ z1 (K3.out.strs W0.out (by simp)) (K3.out.strs W1.out (by simp)) (by omega)).mono ?_
  rintro e w4 ⟨⟨ta, tn, tc⟩, rfl, ht, hel, k4⟩
  dsimp only at ht
  subst ht
  have K4 := Lib.hid (K3.out.trans k4); clear k4
  have HE := Lib.hid hel; clear hel K3
  unfold Trip.val
  dsimp only
  go_wp2_with fail
  have hn0 : Found z0 tn 0 false := by
    simp only [Found, Bool.false_eq_true, if_false]
    exact fun p q hp => by omega
  have HN0 := Lib.hid hn0; clear hn0
  go_loopw [10, 11] (fun b i wr => ∃ (c : Bool) (k : Nat), k ≤ tn ∧ i = .int .i64 k ∧ b = .bool c ∧ Found z0 tn k c ∧ Kept [] w4 wr) (fun _ i _ => tn - (intOf i).toNat)
  case atStart => exact ⟨false, 0, Nat.zero_le _, rfl, rfl, HN0.out, Kept.refl _ _⟩
  case round =>
    clear HN0
    obtain ⟨c, k, hk, rfl, rfl, hf, hb⟩ := hrel
    obtain ⟨wo, rfl⟩ : ∃ wo : World, wo = wr := ⟨_, rfl⟩
    have HB := Lib.hid hb; clear hb
    have HF := Lib.hid hf; clear hf
    have fin : ∀ w5, Kept [] w4 w5 → (c = true ∨ k = tn) → Calls Try.prog 16 #[.slice ta tn tc] w5 (Bl c w5) := by
      intro w5 k5 hc
      have hd : decide (Maps.size (vset (z0.take tn)) < (z0.take tn).length) = c := by
        rcases hc with rfl | rfl
        · have hh := HF.out
          simp only [Found, if_true] at hh
          rw [decide_eq_true_iff, vset_lt]
          exact found_dup (by rw [HZ.out]; exact le0) hh
        · exact found_end (by rw [HZ.out]; exact le0) HF.out
      rw [← hd]
      exact dup_zz w5 w3.heap.size _ _ (HE.out.kept0 k5) (by rw [List.length_take]; omega) (fun s hs => HS.out s (List.mem_of_mem_take hs))
    have FIN := Lib.hid fin; clear fin
    cases c
    · by_cases hlt : k < tn
      · clear FIN
        go_wp2_with fail
        go_loopw [10, 12] (fun b j wr => ∃ (m : Nat), k < m ∧ m ≤ tn ∧ j = .int .i64 m ∧ b = .bool false ∧ (∀ q, k < q → q < m → z0.getD k ByteArray.empty ≠ z0.getD q ByteArray.empty) ∧ Kept [] w4 wr) (fun _ j _ => tn - (intOf j).toNat)
        case atStart => exact ⟨k + 1, by omega, by omega, by go_num, rfl, fun q h1 h2 => by omega, HB.out⟩
        case round =>
          clear HB
          obtain ⟨m, hkm, hm, rfl, rfl, hq, hb⟩ := hrel
          have HQ := Lib.hid hq; clear hq
          have HB := Lib.hid hb; clear hb
          by_cases hmt : m < tn
          · obtain ⟨b, o, rfl, hbl, hc⟩ := HC.out m hmt
            have c0 := (K4.out.trans HB.out).cell (hc m (by omega)) (by simp)
            have c1 := (K4.out.trans HB.out).cell (hc k (by omega)) (by simp)
            obtain ⟨s, hs⟩ : ∃ s, z0.getD m ByteArray.empty = s := ⟨_, rfl⟩
            obtain ⟨t, ht⟩ : ∃ t, z0.getD k ByteArray.empty = t := ⟨_, rfl⟩
            rw [hs] at c0
            rw [ht] at c1
            clear hc
            have HSs := Lib.hid hs; clear hs
            have HTs := Lib.hid ht; clear ht
            have i1 : (0 : Int) ≤ (m : Int) := by omega
            have i2 : (m : Int) < (tn : Int) := by omega
            have i3 : (0 : Int) ≤ (k : Int) := by omega
            have i4 : (k : Int) < (tn : Int) := by omega
            go_wp2_with fail
            by_cases hbe : (t.toList == s.toList) = true
            · have hfn : Found z0 tn (k + 1) true := by
                simp only [Found, if_true]
                exact ⟨k, m, hkm, hmt, by rw [HTs.out, HSs.out]; exact beq_bytes hbe⟩
              have HFN := Lib.hid hfn; clear hfn
              go_region
              go_wp2_with fail
              exact ⟨⟨true, k + 1, by omega, by go_num, rfl, HFN.out, HB.out.drew⟩, by simp [intOf]; omega⟩
            · have hbf : (t.toList == s.toList) = false := by simpa using hbe
              have hqn : ∀ q, k < q → q < m + 1 → z0.getD k ByteArray.empty ≠ z0.getD q ByteArray.empty := by
                intro q h1 h2
                by_cases hqm : q < m
                · exact HQ.out q h1 hqm
                · obtain rfl : q = m := by omega
                  rw [HTs.out, HSs.out]
                  exact nbeq_bytes hbf
              have HQN := Lib.hid hqn; clear hqn hbe
              go_region
              go_wp2_with fail
              exact ⟨⟨m + 1, by omega, by omega, by go_num, rfl, HQN.out, HB.out.drew⟩, by simp [intOf]; omega⟩
          · obtain rfl : m = tn := by omega
            have hfn : Found z0 m (k + 1) false := by
              simp only [Found, Bool.false_eq_true, if_false]
              intro p q hp h1 h2
              have hf := HF.out
              simp only [Found, Bool.false_eq_true, if_false] at hf
              by_cases hpk : p < k
              · exact hf p q hpk h1 h2
              · obtain rfl : p = k := by omega
                exact HQ.out q h1 h2
            have HFN := Lib.hid hfn; clear hfn
            go_wp2_with fail
            exact ⟨⟨false, k + 1, by omega, by go_num, rfl, HFN.out, HB.out⟩, by simp [intOf]; omega⟩
      · have hkt : k = tn := by omega
        have hc := FIN.out wo HB.out (Or.inr hkt)
        have HC := Lib.hid hc; clear hc FIN
        go_wp2_with fail
        refine HC.out.mono ?_
        rintro e w5 ⟨rfl, k5⟩
        have K5 := Lib.hid ((K4.out.trans HB.out).trans k5); clear k5
        go_wp2_with fail
        go_ret
        exact ⟨rfl, K5.out.below (Nat.le_refl _) (by simp)⟩
    · have hc := FIN.out wo HB.out (Or.inl rfl)
      have HC := Lib.hid hc; clear hc FIN
      go_wp2_with fail
      all_goals
        refine HC.out.mono ?_
        rintro e w5 ⟨rfl, k5⟩
        have K5 := Lib.hid ((K4.out.trans HB.out).trans k5); clear k5
        go_wp2_with fail
        go_ret
        exact ⟨rfl, K5.out.below (Nat.le_refl _) (by simp)⟩
end fnDuplicatedVariablesExact
end Go.Proofs.Ytddcpnhpjgeldaa
