/- The contracts of n008_135's countInterstitialB2, sumCommentsB2, sumBlanksB2: sums over a fodder's codes. -/
import Derived.Test.YtddcpnhpjgeldaaFmtFS2
namespace Go.Proofs.YtddcpnhpjgeldaaFmt
open Go.ChangeShapes Go.WideShapes Go.ChangeAt Go.RowKit

set_option maxRecDepth 100000 in
set_option maxHeartbeats 4000000 in
theorem countI_any (w : World) (base : Nat) (v : Value) (l : List FE) (h : Fod w base v l) :
    Calls Tryf.prog 17 #[v] w fun e w' => e = .returned (.int .i64 (wrap64 (sumOf gI (codes l)))) ∧ Kept [] w w' := by
  obtain ⟨a, cap, rfl, hlc, hcm, ha⟩ := h.slice
  unfold maxLen at hcm
  obtain ⟨n, hn⟩ : ∃ n, l.length = n := ⟨_, rfl⟩
  have H := Lib.hid h; clear h
  have HA := Lib.hid ha; clear ha
  rw [hn] at hlc ⊢
  have HN := Lib.hid hn; clear hn
  go_enter Tryf.func17, Tryf.ntmps17
  go_wp2_with fail
  go_loopw [3, 4] (fun c i wr => ∃ k : Nat, k ≤ n ∧ i = .int .i64 k ∧ c = .int .i64 (wrap64 (sumOf gI ((codes l).take k))) ∧ Kept [] w wr) (fun _ i _ => n - (intOf i).toNat)
  case atStart => exact ⟨0, Nat.zero_le _, rfl, by simp [sumOf, wrap64], Kept.refl _ _⟩
  case round =>
    obtain ⟨k, hk, rfl, rfl, hkw⟩ := hrel
    have HKW := Lib.hid hkw; clear hkw
    by_cases hlt : k < n
    · obtain ⟨g, rfl, -, -⟩ := HA.out k (by rw [HN.out]; exact hlt)
      obtain ⟨e, he, c0, c1, c2, c3⟩ := (H.out.kept HKW.out (by simp)).cells k (by rw [HN.out]; exact hlt)
      have HST : Hid (wrap64 (sumOf gI ((codes l).take (k + 1))) = wrap64 (sumOf gI ((codes l).take k) + gI e.snap)) := Lib.hid (by rw [take_snoc (show (codes l)[k]? = some e.snap by rw [codes, List.getElem?_map, he]; rfl), sumOf_append, sumOf_one])
      clear he
      obtain ⟨ea, el, ec, ek, eb, ei⟩ := e
      dsimp only at c0 c1 c2 c3 HST
      by_cases h1 : ek = 1
      · subst h1
        have hst : wrap64 (sumOf gI ((codes l).take (k + 1))) = wrap64 (wrap64 (sumOf gI ((codes l).take k)) + 1) := by rw [HST.out, w64_l]; rfl
        have hst2 := hst
        obtain ⟨S, hS⟩ : ∃ S, wrap64 (sumOf gI ((codes l).take k)) = S := ⟨_, rfl⟩
        rw [hS] at hst ⊢
        have HST2 := Lib.hid hst; clear hst hst2 hS
        go_wp2_with fail
        exact ⟨⟨k + 1, by omega, by go_num, by rw [HST2.out], HKW.out⟩, by simp [intOf]; omega⟩
      · have h1b : (ek == 1) = false := by simpa using h1
        have hst : wrap64 (sumOf gI ((codes l).take (k + 1))) = wrap64 (sumOf gI ((codes l).take k)) := by
          rw [HST.out]
          unfold gI FE.snap
          dsimp only
          rw [if_neg h1, Int.add_zero]
        obtain ⟨S, hS⟩ : ∃ S, wrap64 (sumOf gI ((codes l).take k)) = S := ⟨_, rfl⟩
        rw [hS] at hst ⊢
        have HST2 := Lib.hid hst; clear hst hS
        go_wp2_with fail
        exact ⟨⟨k + 1, by omega, by go_num, by rw [HST2.out], HKW.out⟩, by simp [intOf]; omega⟩
    · obtain rfl : k = n := by omega
      have hz : (codes l).take k = codes l := List.take_of_length_le (by rw [codes, List.length_map, HN.out]; exact Nat.le_refl _)
      rw [hz]
      go_wp2_with fail
      go_ret
      exact ⟨rfl, HKW.out⟩

set_option maxRecDepth 100000 in
set_option maxHeartbeats 4000000 in
theorem sumC_any (w : World) (base : Nat) (v : Value) (l : List FE) (h : Fod w base v l) :
    Calls Tryf.prog 18 #[v] w fun e w' => e = .returned (.int .i64 (wrap64 (sumOf gC (codes l)))) ∧ Kept [] w w' := by
  obtain ⟨a, cap, rfl, hlc, hcm, ha⟩ := h.slice
  unfold maxLen at hcm
  obtain ⟨n, hn⟩ : ∃ n, l.length = n := ⟨_, rfl⟩
  have H := Lib.hid h; clear h
  have HA := Lib.hid ha; clear ha
  rw [hn] at hlc ⊢
  have HN := Lib.hid hn; clear hn
  go_enter Tryf.func18, Tryf.ntmps18
  go_wp2_with fail
  go_loopw [3, 4] (fun c i wr => ∃ k : Nat, k ≤ n ∧ i = .int .i64 k ∧ c = .int .i64 (wrap64 (sumOf gC ((codes l).take k))) ∧ Kept [] w wr) (fun _ i _ => n - (intOf i).toNat)
  case atStart => exact ⟨0, Nat.zero_le _, rfl, by simp [sumOf, wrap64], Kept.refl _ _⟩
  case round =>
    obtain ⟨k, hk, rfl, rfl, hkw⟩ := hrel
    have HKW := Lib.hid hkw; clear hkw
    by_cases hlt : k < n
    · obtain ⟨g, rfl, -, -⟩ := HA.out k (by rw [HN.out]; exact hlt)
      obtain ⟨e, he, c0, c1, c2, c3⟩ := (H.out.kept HKW.out (by simp)).cells k (by rw [HN.out]; exact hlt)
      have HST : Hid (wrap64 (sumOf gC ((codes l).take (k + 1))) = wrap64 (sumOf gC ((codes l).take k) + gC e.snap)) := Lib.hid (by rw [take_snoc (show (codes l)[k]? = some e.snap by rw [codes, List.getElem?_map, he]; rfl), sumOf_append, sumOf_one])
      clear he
      obtain ⟨ea, el, ec, ek, eb, ei⟩ := e
      dsimp only at c0 c1 c2 c3 HST
      have hst : wrap64 (sumOf gC ((codes l).take (k + 1))) = wrap64 (wrap64 (sumOf gC ((codes l).take k)) + (el : Int)) := by rw [HST.out, w64_l]; rfl
      obtain ⟨S, hS⟩ : ∃ S, wrap64 (sumOf gC ((codes l).take k)) = S := ⟨_, rfl⟩
      rw [hS] at hst ⊢
      have HST2 := Lib.hid hst; clear hst hS
      go_wp2_with fail
      exact ⟨⟨k + 1, by omega, by go_num, by rw [HST2.out], HKW.out⟩, by simp [intOf]; omega⟩
    · obtain rfl : k = n := by omega
      have hz : (codes l).take k = codes l := List.take_of_length_le (by rw [codes, List.length_map, HN.out]; exact Nat.le_refl _)
      rw [hz]
      go_wp2_with fail
      go_ret
      exact ⟨rfl, HKW.out⟩

set_option maxRecDepth 100000 in
set_option maxHeartbeats 4000000 in
theorem sumB_any (w : World) (base : Nat) (v : Value) (l : List FE) (h : Fod w base v l) :
    Calls Tryf.prog 19 #[v] w fun e w' => e = .returned (.int .i64 (wrap64 (sumOf gB (codes l)))) ∧ Kept [] w w' := by
  obtain ⟨a, cap, rfl, hlc, hcm, ha⟩ := h.slice
  unfold maxLen at hcm
  obtain ⟨n, hn⟩ : ∃ n, l.length = n := ⟨_, rfl⟩
  have H := Lib.hid h; clear h
  have HA := Lib.hid ha; clear ha
  rw [hn] at hlc ⊢
  have HN := Lib.hid hn; clear hn
  go_enter Tryf.func19, Tryf.ntmps19
  go_wp2_with fail
  go_loopw [3, 4] (fun c i wr => ∃ k : Nat, k ≤ n ∧ i = .int .i64 k ∧ c = .int .i64 (wrap64 (sumOf gB ((codes l).take k))) ∧ Kept [] w wr) (fun _ i _ => n - (intOf i).toNat)
  case atStart => exact ⟨0, Nat.zero_le _, rfl, by simp [sumOf, wrap64], Kept.refl _ _⟩
  case round =>
    obtain ⟨k, hk, rfl, rfl, hkw⟩ := hrel
    have HKW := Lib.hid hkw; clear hkw
    by_cases hlt : k < n
    · obtain ⟨g, rfl, -, -⟩ := HA.out k (by rw [HN.out]; exact hlt)
      obtain ⟨e, he, c0, c1, c2, c3⟩ := (H.out.kept HKW.out (by simp)).cells k (by rw [HN.out]; exact hlt)
      have HST : Hid (wrap64 (sumOf gB ((codes l).take (k + 1))) = wrap64 (sumOf gB ((codes l).take k) + gB e.snap)) := Lib.hid (by rw [take_snoc (show (codes l)[k]? = some e.snap by rw [codes, List.getElem?_map, he]; rfl), sumOf_append, sumOf_one])
      clear he
      obtain ⟨ea, el, ec, ek, eb, ei⟩ := e
      dsimp only at c0 c1 c2 c3 HST
      have hst : wrap64 (sumOf gB ((codes l).take (k + 1))) = wrap64 (wrap64 (sumOf gB ((codes l).take k)) + eb) := by rw [HST.out, w64_l]; rfl
      obtain ⟨S, hS⟩ : ∃ S, wrap64 (sumOf gB ((codes l).take k)) = S := ⟨_, rfl⟩
      rw [hS] at hst ⊢
      have HST2 := Lib.hid hst; clear hst hS
      go_wp2_with fail
      exact ⟨⟨k + 1, by omega, by go_num, by rw [HST2.out], HKW.out⟩, by simp [intOf]; omega⟩
    · obtain rfl : k = n := by omega
      have hz : (codes l).take k = codes l := List.take_of_length_le (by rw [codes, List.length_map, HN.out]; exact Nat.le_refl _)
      rw [hz]
      go_wp2_with fail
      go_ret
      exact ⟨rfl, HKW.out⟩

end Go.Proofs.YtddcpnhpjgeldaaFmt
