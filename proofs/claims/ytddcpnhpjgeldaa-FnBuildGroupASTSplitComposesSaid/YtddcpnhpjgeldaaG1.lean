/- Does a group of imports end at this fodder? The plain law, and the contract of n008_135's endsModelB2. -/
import Derived.Test.YtddcpnhpjgeldaaT1
namespace Go.Proofs.Ytddcpnhpjgeldaa
open Go.ChangeShapes Go.WideShapes Go.ChangeAt Go.RowKit

/-- From here on: a line break was reached, and something follows; or there are blank lines. -/
def endsG : List ZE → Bool → Bool
  | [], _ => false
  | z :: l, r => r || decide (0 < z.b) || endsG l (r || z.k != 1)
def ends (l : List ZE) : Bool := endsG l false
theorem endsG_iff (l : List ZE) : ∀ r : Bool, endsG l r = true ↔ (r = true ∧ l ≠ []) ∨ (∃ z ∈ l, 0 < z.b) ∨ ∃ (j : Nat) (z : ZE), l[j]? = some z ∧ j + 1 < l.length ∧ z.k ≠ 1 := by
  induction l with
  | nil => intro r; simp [endsG]
  | cons x l ih =>
    intro r
    simp only [endsG, Bool.or_eq_true, decide_eq_true_eq, ih]
    constructor
    · rintro ((h | h) | (⟨h, hl⟩ | ⟨z, hz, hb⟩ | ⟨j, z, hj, hl, hk⟩))
      · exact Or.inl ⟨h, by simp⟩
      · exact Or.inr (Or.inl ⟨x, by simp, h⟩)
      · rcases h with h | h
        · exact Or.inl ⟨h, by simp⟩
        · refine Or.inr (Or.inr ⟨0, x, rfl, ?_, by simpa using h⟩)
          cases l with
          | nil => exact absurd rfl hl
          | cons y l => simp
      · exact Or.inr (Or.inl ⟨z, by simp [hz], hb⟩)
      · exact Or.inr (Or.inr ⟨j + 1, z, by simpa using hj, by simpa using hl, hk⟩)
    · rintro (⟨h, _⟩ | ⟨z, hz, hb⟩ | ⟨j, z, hj, hl, hk⟩)
      · exact Or.inl (Or.inl h)
      · rcases List.mem_cons.1 hz with rfl | hz
        · exact Or.inl (Or.inr hb)
        · exact Or.inr (Or.inr (Or.inl ⟨z, hz, hb⟩))
      · cases j with
        | zero =>
          obtain rfl : x = z := by simpa using hj
          refine Or.inr (Or.inl ⟨Or.inr (by simpa using hk), ?_⟩)
          rintro rfl
          simp at hl
        | succ j => exact Or.inr (Or.inr (Or.inr ⟨j, z, by simpa using hj, by simpa using hl, hk⟩))
theorem ends_iff (l : List ZE) : ends l = true ↔ (∃ z ∈ l, 0 < z.b) ∨ ∃ (j : Nat) (z : ZE), l[j]? = some z ∧ j + 1 < l.length ∧ z.k ≠ 1 := by
  unfold ends
  rw [endsG_iff]
  simp
theorem ends_more (l t : List ZE) (h : ends l = true) : ends (l ++ t) = true := by
  rw [ends_iff] at h ⊢
  rcases h with ⟨z, hz, hb⟩ | ⟨j, z, hj, hl, hk⟩
  · exact Or.inl ⟨z, by simp [hz], hb⟩
  · exact Or.inr ⟨j, z, by rw [List.getElem?_append_left (by omega)]; exact hj, by rw [List.length_append]; omega, hk⟩
theorem ends_led (l : List ZE) (i c : Int) : ends (⟨1, 0, i, c⟩ :: l) = ends l := by
  simp [ends, endsG]

/-- All before p are comments within a line, and p is none or the end. -/
def FirstAt (l : List ZE) (p : Nat) : Prop := (∀ (j : Nat) z, j < p → l[j]? = some z → z.k = 1) ∧ (p = l.length ∨ ∃ z, l[p]? = some z ∧ z.k ≠ 1)
theorem ends_first {l : List ZE} {p : Nat} (h : FirstAt l p) (hp : p + 1 < l.length) : ends l = true := by
  rw [ends_iff]
  rcases h.2 with h | ⟨z, hz, hk⟩
  · omega
  · exact Or.inr ⟨p, z, hz, hp, hk⟩
theorem ends_blank {l : List ZE} {j : Nat} {z : ZE} (hz : l[j]? = some z) (hb : 0 < z.b) : ends l = true := by
  rw [ends_iff]
  exact Or.inl ⟨z, List.mem_of_getElem? hz, hb⟩
theorem ends_none {l : List ZE} {p : Nat} (h : FirstAt l p) (hp : ¬ p + 1 < l.length) (hb : ∀ (j : Nat) z, j < l.length → l[j]? = some z → ¬ 0 < z.b) : ends l = false := by
  rw [← Bool.not_eq_true, ends_iff]
  rintro (⟨z, hz, hz0⟩ | ⟨j, z, hj, hl, hk⟩)
  · obtain ⟨j, hj⟩ := List.mem_iff_getElem?.1 hz
    exact hb j z (List.getElem?_eq_some_iff.1 hj).1 hj hz0
  · exact hk (h.1 j z (by omega) hj)

set_option maxRecDepth 100000 in
set_option maxHeartbeats 2000000 in
theorem endsModel_any (w : World) (base : Nat) (v : Value) (l : List FE) (h : Fod w base v l) (hlen : l.length ≤ 4194304) :
    Calls Try.prog 27 #[v] w fun e w' => e = .returned (.bool (ends (codes l))) ∧ Kept [] w w' := by
  obtain ⟨a, cap, rfl, hlc, hcm, ha⟩ := h.slice
  unfold maxLen at hcm
  obtain ⟨n, hn⟩ : ∃ n, l.length = n := ⟨_, rfl⟩
  have H := Lib.hid h; clear h
  have HA := Lib.hid ha; clear ha
  rw [hn] at hlc hlen ⊢
  have HN := Lib.hid hn; clear hn
  have HCL : Hid ((codes l).length = n) := Lib.hid (by rw [List.length_map]; exact HN.out)
  go_enter Try.func27, Try.ntmps27
  go_wp2_with fail
  go_loopw [3, 4] (fun p i wr => ∃ k : Nat, k ≤ n ∧ i = .int .i64 k ∧ p = .int .i64 n ∧ Kept [] w wr ∧ Hid (∀ (q : Nat) z, q < k → (codes l)[q]? = some z → z.k = 1)) (fun _ i _ => n - (intOf i).toNat)
  case atStart => exact ⟨0, Nat.zero_le _, rfl, rfl, Kept.refl _ _, Lib.hid (fun q z hq => by omega)⟩
  case round =>
    obtain ⟨k, hk, rfl, rfl, hb, HK⟩ := hrel
    have HB := Lib.hid hb; clear hb
    by_cases hkn : k < n
    · obtain ⟨g, rfl, -, -⟩ := HA.out k (by rw [HN.out]; exact hkn)
      obtain ⟨⟨ca, cl, cc, zk, zb, zi⟩, hz, c0, c1, c2, c3⟩ := (H.out.kept HB.out (by simp)).cells k (by rw [HN.out]; exact hkn)
      dsimp only at c0 c1 c2 c3
      have hzc : (codes l)[k]? = some ⟨zk, zb, zi, cl⟩ := by rw [List.getElem?_map, hz]; rfl
      have HZC := Lib.hid hzc; clear hzc hz
      by_cases h1 : zk = 1
      · subst h1
        have hqn : ∀ (q : Nat) z, q < k + 1 → (codes l)[q]? = some z → z.k = 1 := by
          intro q z hq hz
          by_cases hqj : q < k
          · exact HK.out q z hqj hz
          · obtain rfl : q = k := by omega
            rw [HZC.out] at hz
            obtain rfl : (⟨1, zb, zi, (cl : Int)⟩ : ZE) = z := by simpa using hz
            rfl
        have HQN := Lib.hid hqn; clear hqn
        go_wp2_with fail
        exact ⟨⟨k + 1, by omega, by go_num, rfl, HB.out, HQN⟩, by simp [intOf]; omega⟩
      · have hn1 : (zk == 1) = false := by simpa using h1
        have hfa : FirstAt (codes l) k := ⟨HK.out, Or.inr ⟨_, HZC.out, h1⟩⟩
        have HFA := Lib.hid hfa; clear hfa HK HZC
        by_cases hp1 : k + 1 < n
        · have he := ends_first HFA.out (by rw [HCL.out]; exact hp1)
          have HEN := Lib.hid he; clear he
          go_wp2_with fail
          go_ret
          exact ⟨by rw [HEN.out]; rfl, HB.out⟩
        go_wp2_with fail
        go_loopw [5] (fun i wr => ∃ j : Nat, j ≤ n ∧ i = .int .i64 j ∧ Kept [] w wr ∧ Hid (∀ (q : Nat) z, q < j → (codes l)[q]? = some z → ¬ 0 < z.b)) (fun i _ => n - (intOf i).toNat)
        case atStart => exact ⟨0, Nat.zero_le _, rfl, HB.out, Lib.hid (fun q z hq => by omega)⟩
        case round =>
          clear HB
          obtain ⟨j, hj, rfl, hb, HQ⟩ := hrel
          have HB := Lib.hid hb; clear hb
          by_cases hjn : j < n
          · skip
            obtain ⟨⟨ca, cl, cc, zk, zb, zi⟩, hz, c0, c1, c2, c3⟩ := (H.out.kept HB.out (by simp)).cells j (by rw [HN.out]; exact hjn)
            dsimp only at c0 c1 c2 c3
            have hzc : (codes l)[j]? = some ⟨zk, zb, zi, cl⟩ := by rw [List.getElem?_map, hz]; rfl
            have HZC := Lib.hid hzc; clear hzc hz
            have hjp : j ≤ k := by omega
            by_cases hb0 : 0 < zb
            · have he := ends_blank HZC.out hb0
              have HEN := Lib.hid he; clear he
              go_wp2_with fail
              go_ret
              exact ⟨by rw [HEN.out]; rfl, HB.out⟩
            have hqn : ∀ (q : Nat) z, q < j + 1 → (codes l)[q]? = some z → ¬ 0 < z.b := by
              intro q z hq hz
              by_cases hqj : q < j
              · exact HQ.out q z hqj hz
              · obtain rfl : q = j := by omega
                rw [HZC.out] at hz
                obtain rfl : (⟨zk, zb, zi, (cl : Int)⟩ : ZE) = z := by simpa using hz
                exact hb0
            have HQN := Lib.hid hqn; clear hqn
            go_wp2_with fail
            exact ⟨⟨j + 1, by omega, by go_num, HB.out, HQN⟩, by simp [intOf]; omega⟩
          · obtain rfl : j = n := by omega
            have he := ends_none HFA.out (by rw [HCL.out]; exact hp1) (fun q z hq hz => HQ.out q z (by rw [HCL.out] at hq; exact hq) hz)
            have HEN := Lib.hid he; clear he
            go_wp2_with fail
            all_goals
              go_ret
              exact ⟨by rw [HEN.out]; rfl, HB.out⟩
    · obtain rfl : k = n := by omega
      have hfa : FirstAt (codes l) k := ⟨HK.out, Or.inl (by rw [HCL.out])⟩
      have HFA := Lib.hid hfa; clear hfa HK
      have hp1 : ¬ k + 1 < k := by omega
      go_wp2_with fail
      go_loopw [5] (fun i wr => ∃ j : Nat, j ≤ k ∧ i = .int .i64 j ∧ Kept [] w wr ∧ Hid (∀ (q : Nat) z, q < j → (codes l)[q]? = some z → ¬ 0 < z.b)) (fun i _ => k - (intOf i).toNat)
      case atStart => exact ⟨0, Nat.zero_le _, rfl, HB.out, Lib.hid (fun q z hq => by omega)⟩
      case round =>
        clear HB
        obtain ⟨j, hj, rfl, hb, HQ⟩ := hrel
        have HB := Lib.hid hb; clear hb
        by_cases hjn : j < k
        · obtain ⟨g, rfl, -, -⟩ := HA.out j (by rw [HN.out]; exact hjn)
          obtain ⟨⟨ca, cl, cc, zk, zb, zi⟩, hz, c0, c1, c2, c3⟩ := (H.out.kept HB.out (by simp)).cells j (by rw [HN.out]; exact hjn)
          dsimp only at c0 c1 c2 c3
          have hzc : (codes l)[j]? = some ⟨zk, zb, zi, cl⟩ := by rw [List.getElem?_map, hz]; rfl
          have HZC := Lib.hid hzc; clear hzc hz
          have hjp : j ≤ k := by omega
          by_cases hb0 : 0 < zb
          · have he := ends_blank HZC.out hb0
            have HEN := Lib.hid he; clear he
            go_wp2_with fail
            go_ret
            exact ⟨by rw [HEN.out]; rfl, HB.out⟩
          have hqn : ∀ (q : Nat) z, q < j + 1 → (codes l)[q]? = some z → ¬ 0 < z.b := by
            intro q z hq hz
            by_cases hqj : q < j
            · exact HQ.out q z hqj hz
            · obtain rfl : q = j := by omega
              rw [HZC.out] at hz
              obtain rfl : (⟨zk, zb, zi, (cl : Int)⟩ : ZE) = z := by simpa using hz
              exact hb0
          have HQN := Lib.hid hqn; clear hqn
          go_wp2_with fail
          exact ⟨⟨j + 1, by omega, by go_num, HB.out, HQN⟩, by simp [intOf]; omega⟩
        · obtain rfl : j = k := by omega
          have he := ends_none HFA.out (by rw [HCL.out]; exact hp1) (fun q z hq hz => HQ.out q z (by rw [HCL.out] at hq; exact hq) hz)
          have HEN := Lib.hid he; clear he
          go_wp2_with fail
          all_goals
            go_ret
            exact ⟨by rw [HEN.out]; rfl, HB.out⟩
end Go.Proofs.Ytddcpnhpjgeldaa
