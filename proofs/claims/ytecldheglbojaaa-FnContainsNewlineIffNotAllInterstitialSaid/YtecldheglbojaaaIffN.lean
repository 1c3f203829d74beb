/- The walk of the law FnContainsNewlineIffNotAllInterstitial: it returns true at every slice of ints, and writes nothing that was there. -/
import Derived.Test.YtecldheglbojaaaHasNL
namespace Go.Proofs.Ytecldheglbojaaa
open Go.ChangeShapes Go.WideShapes Go.ChangeAt Go.RowKit

set_option maxHeartbeats 400000 in
theorem zzBytes_IffN (w : World) (a : Option Addr) (len cap : Nat) (h : len ≤ 9223372036854775807) :
    Calls Try.prog 14 #[.slice a len cap] w (SomeBool w) := by
  go_enter Try.func14, Try.ntmps14
  go_wp2
  all_goals
    go_ret
    exact ⟨_, rfl, rfl⟩

/-- How many of the numbers are 1. -/
def ones (l : List Int) : Nat := l.countP (fun x => x == 1)
theorem ones_take (l : List Int) (m : Nat) (h : m < l.length) : ones (l.take (m + 1)) = ones (l.take m) + if (l.getD m 0 == 1) = true then 1 else 0 := by
  unfold ones
  have hg : l.getD m 0 = l[m] := by simp [List.getD, List.getElem?_eq_getElem h]
  rw [hg, List.take_add_one, List.getElem?_eq_getElem h, List.countP_append, Option.toList_some, List.countP_singleton]
theorem ones_le (l : List Int) : ones l ≤ l.length := List.countP_le_length
theorem anyNL_ones (l : List Int) : anyNL (l.map mkK) = decide ((ones l : Int) < (l.length : Nat)) := by
  induction l with
  | nil => rfl
  | cons x l ih =>
    have hl := ones_le l
    by_cases hx : x = 1
    · subst hx
      have h1 : anyNL ((1 :: l).map mkK) = anyNL (l.map mkK) := by simp [anyNL, mkK]
      have h2 : ones (1 :: l) = ones l + 1 := by simp [ones]
      rw [h1, ih, h2]
      simp
    · have h1 : anyNL ((x :: l).map mkK) = true := by simp [anyNL, mkK, hx]
      have h2 : ones (x :: l) = ones l := by simp [ones, hx]
      rw [h1, h2]
      simp
      omega

namespace fnContainsNewlineIffNotAllInterstitial
set_option maxHeartbeats 400000 in
theorem walk (a0 : Option Addr) (len0 cap0 : Nat) (z0 : List Int) (w : World) (w0 : IsRow .i64 w a0 len0 cap0 z0) :
    Calls Try.prog 5 #[.slice a0 len0 cap0] w fun e w' => e = .returned (.bool true) ∧ Below w.heap.size w w' := by
  obtain ⟨hlc, hcm, hzl, _, hcell⟩ := w0.open
  unfold maxLen at hcm
  have hb0 : len0 ≤ 9223372036854775807 := by omega
  have W0 := Lib.hid w0; clear w0
  have HZ := Lib.hid hzl; clear hzl
  have HC := Lib.hid hcell; clear hcell
  go_enter Try.func5, Try.ntmps5
  go_wp2_with fail
  refine (zzBytes_IffN _ _ _ _ hb0).mono ?_
  rintro e w' ⟨b, rfl, rfl⟩
  cases b
  · go_wp2_with fail
    go_ret
    exact ⟨rfl, Below.refl _ _⟩
  by_cases h2 : 65536 < len0
  · go_wp2_with fail
    go_ret
    exact ⟨rfl, Below.refl _ _⟩
  go_wp2_with fail
  go_loop [3, 4] (fun c i => ∃ m : Nat, m ≤ len0 ∧ i = .int .i64 m ∧ c = .int .i64 (ones (z0.take m) : Nat)) (fun _ i => len0 - (intOf i).toNat)
  case atStart => exact ⟨0, Nat.zero_le _, rfl, rfl⟩
  case round =>
    obtain ⟨m, hm, rfl, rfl⟩ := hrel
    have hon := ones_le (z0.take m)
    have hon' : ones (z0.take m) ≤ m := Nat.le_trans hon (List.length_take_le _ _)
    clear hon
    by_cases hlt : m < len0
    · obtain ⟨b, o, rfl, hbl, hc⟩ := HC.out m hlt
      have hcm := hc m (by omega)
      have hot := ones_take z0 m (by rw [HZ.out]; omega)
      generalize z0.getD m 0 = zm at *
      generalize ones (z0.take m) = on at *
      have HO := Lib.hid hot; clear hot hc
      clear HC
      go_wp2_with fail
      all_goals
        go_round
        case rel =>
          rename_i hne
          refine ⟨m + 1, by omega, by go_num, ?_⟩
          rw [HO.out]
          first | (rw [if_pos hne]; go_num) | (rw [if_neg (by simpa using hne)]; go_num)
        case measure => simp [intOf]; omega
    · obtain rfl : m = len0 := by omega
      have hfin := anyNL_ones (z0.take m)
      have hzl : (z0.take m).length = m := by rw [List.length_take, HZ.out]; omega
      rw [hzl] at hfin
      generalize hon : ones (z0.take m) = on at *
      have HFIN := Lib.hid hfin; clear hfin hzl hon HC
      go_wp2_with fail
      refine (zzFodder_any _ _ _ _ z0 W0.out (by omega)).mono ?_
      rintro e w1 ⟨v, rfl, hf1, hb1⟩
      have HF1 := Lib.hid hf1; clear hf1
      go_wp2_with fail
      refine (ZZContainsNewline_any _ _ _ _ HF1.out).mono ?_
      rintro e w2 ⟨rfl, hb2⟩
      rw [HFIN.out]
      go_wp2_with fail
      have := hb1.size
      all_goals
        go_ret
        exact ⟨by simp, hb1.trans (hb2.mono (by omega))⟩
end fnContainsNewlineIffNotAllInterstitial
end Go.Proofs.Ytecldheglbojaaa
