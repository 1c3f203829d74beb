/- The walk of the law FnHasNewLinesAgreesWithContainsNewline: it returns true at every slice of ints, and writes nothing that was there. -/
import Derived.Test.YtecldheglbojaaaFodNL
import Derived.Test.YtecldheglbojaaaZzf
namespace Go.Proofs.Ytecldheglbojaaa
open Go.ChangeShapes Go.WideShapes Go.ChangeAt Go.RowKit

set_option maxHeartbeats 400000 in
theorem zzBytes_HasNL (w : World) (a : Option Addr) (len cap : Nat) (h : len ≤ 1048576) :
    Calls Try.prog 8 #[.slice a len cap] w fun e w' => e = .returned (.bool true) ∧ w = w' := by
  go_enter Try.func8, Try.ntmps8
  go_wp2
  go_ret
  exact ⟨rfl, rfl⟩
set_option maxHeartbeats 400000 in
theorem zzBytes_HasNL_not (w : World) (a : Option Addr) (len cap : Nat) (h : 1048576 < len) :
    Calls Try.prog 8 #[.slice a len cap] w fun e w' => e = .returned (.bool false) ∧ w = w' := by
  go_enter Try.func8, Try.ntmps8
  go_wp2
  go_ret
  exact ⟨rfl, rfl⟩

set_option maxHeartbeats 400000 in
theorem ZZHasNewLines_any (w : World) (base : Nat) (v : Value) (l : List FE) (h : Fod w base v l) :
    Calls Try.prog 10 #[v] w fun e w' => e = .returned (.bool (anyNL l)) ∧ Below w.heap.size w w' := by
  have H := Lib.hid h; clear h
  go_enter Try.func10, Try.ntmps10
  go_wp2_with fail
  refine (hasNewLines_any _ base _ _ l (H.out.below ((Below.refl _ _).alloc (Nat.le_refl _) _) (Nat.le_refl _))).mono ?_
  rintro e w' ⟨rfl, hb⟩
  go_wp2_with fail
  go_ret
  exact ⟨rfl, ((Below.refl _ _).alloc (Nat.le_refl _) _).trans (hb.mono (by simp))⟩

set_option maxHeartbeats 400000 in
theorem ZZContainsNewline_any (w : World) (base : Nat) (v : Value) (l : List FE) (h : Fod w base v l) :
    Calls Try.prog 11 #[v] w fun e w' => e = .returned (.bool (anyNL l)) ∧ Below w.heap.size w w' := by
  have H := Lib.hid h; clear h
  go_enter Try.func11, Try.ntmps11
  go_wp2_with fail
  refine (containsNewline_any _ base _ l H.out).mono ?_
  rintro e w' ⟨rfl, hb⟩
  go_wp2_with fail
  go_ret
  exact ⟨rfl, hb⟩

namespace fnHasNewLinesAgreesWithContainsNewline
set_option maxHeartbeats 400000 in
theorem walk (a0 : Option Addr) (len0 cap0 : Nat) (z0 : List Int) (w : World) (w0 : IsRow .i64 w a0 len0 cap0 z0) :
    Calls Try.prog 3 #[.slice a0 len0 cap0] w fun e w' => e = .returned (.bool true) ∧ Below w.heap.size w w' := by
  have W0 := Lib.hid w0; clear w0
  by_cases h1 : 1048576 < len0
  · go_enter Try.func3, Try.ntmps3
    go_wp2_with fail
    refine (zzBytes_HasNL_not _ _ _ _ h1).mono ?_
    rintro e w' ⟨rfl, rfl⟩
    go_wp2_with fail
    go_ret
    exact ⟨rfl, Below.refl _ _⟩
  · by_cases h2 : 65536 < len0
    · go_enter Try.func3, Try.ntmps3
      go_wp2_with fail
      refine (zzBytes_HasNL _ _ _ _ (by omega)).mono ?_
      rintro e w' ⟨rfl, rfl⟩
      go_wp2_with fail
      go_ret
      exact ⟨rfl, Below.refl _ _⟩
    · go_enter Try.func3, Try.ntmps3
      go_wp2_with fail
      refine (zzBytes_HasNL _ _ _ _ (by omega)).mono ?_
      rintro e w' ⟨rfl, rfl⟩
      go_wp2_with fail
      refine (zzFodder_any _ _ _ _ z0 W0.out (by omega)).mono ?_
      rintro e w1 ⟨v, rfl, hf1, hb1⟩
      have HF1 := Lib.hid hf1; clear hf1
      go_wp2_with fail
      refine (ZZHasNewLines_any _ _ _ _ HF1.out).mono ?_
      rintro e w2 ⟨rfl, hb2⟩
      go_wp2_with fail
      refine (ZZContainsNewline_any _ _ _ _ (HF1.out.below hb2 (Nat.le_refl _))).mono ?_
      rintro e w3 ⟨rfl, hb3⟩
      go_wp2_with fail
      go_ret
      have := hb1.size
      have := hb2.size
      exact ⟨by simp, (hb1.trans (hb2.mono (by omega))).trans (hb3.mono (by omega))⟩
end fnHasNewLinesAgreesWithContainsNewline
end Go.Proofs.Ytecldheglbojaaa
