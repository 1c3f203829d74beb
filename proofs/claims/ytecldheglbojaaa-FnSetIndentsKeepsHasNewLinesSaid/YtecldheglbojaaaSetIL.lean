/- The walk of the law FnSetIndentsKeepsHasNewLines: it returns true at every slice of ints and every two ints, and writes nothing that was there. -/
import Derived.Test.YtecldheglbojaaaHasNL
import Derived.Test.YtecldheglbojaaaSetInd
namespace Go.Proofs.Ytecldheglbojaaa
open Go.ChangeShapes Go.WideShapes Go.ChangeAt Go.RowKit

theorem anyNL_reAll (l : List FE) (al la : Int) : anyNL (reAll l al la) = anyNL l := by
  unfold anyNL
  have h : (reAll l al la).map (fun e => e.k) = l.map (fun e => e.k) := by
    apply List.ext_getElem?
    intro j
    simp only [reAll, List.getElem?_map, List.getElem?_mapIdx, Option.map_map]
    congr 1
    funext e
    simp only [Function.comp, reE]
    split <;> rfl
  have k : ∀ m : List FE, m.any (fun e => e.k != 1) = (m.map (fun e => e.k)).any (fun x => x != 1) := by
    intro m; rw [List.any_map]; rfl
  rw [k, k, h]

set_option maxHeartbeats 400000 in
theorem ZZSetIndents_any (w : World) (base : Nat) (v : Value) (l : List FE) (al la : Int) (h : Fod w base v l) (hl : l.length ≤ 1048576) :
    Calls Try.prog 13 #[v, .int .i64 al, .int .i64 la] w fun e w' => e = .returned (.tuple #[]) ∧ SetInd base v (reAll l al la) w w' := by
  have H := Lib.hid h; clear h
  go_enter Try.func13, Try.ntmps13
  go_wp2_with fail
  refine (setIndents_any _ base _ _ l al la (H.out.below ((Below.refl _ _).alloc (Nat.le_refl _) _) (Nat.le_refl _)) hl).mono ?_
  rintro e w' ⟨rfl, hs⟩
  go_wp2_with fail
  go_end0
  exact ⟨rfl, hs.1, fun S hS => ((Kept.refl S _).alloc _).trans (hs.2 S hS)⟩

set_option maxHeartbeats 400000 in
theorem zzBytes_SetIL (w : World) (a : Option Addr) (len cap : Nat) (x y : Int) (h : len ≤ 9223372036854775807) :
    Calls Try.prog 12 #[.slice a len cap, .int .i64 x, .int .i64 y] w (SomeBool w) := by
  go_enter Try.func12, Try.ntmps12
  go_wp2
  all_goals
    go_ret
    exact ⟨_, rfl, rfl⟩

namespace fnSetIndentsKeepsHasNewLines
set_option linter.unusedVariables false
set_option maxHeartbeats 400000 in
theorem walk (a0 : Option Addr) (len0 cap0 : Nat) (z0 : List Int) (a1 : Int) (a2 : Int) (w : World) (w0 : IsRow .i64 w a0 len0 cap0 z0) (w1 : (Lit.int .i64 a1).wf = true) (w2 : (Lit.int .i64 a2).wf = true) :
    Calls Try.prog 4 #[.slice a0 len0 cap0, .int .i64 a1, .int .i64 a2] w fun e w' => e = .returned (.bool true) ∧ Below w.heap.size w w' := by
  have hw := w0.open
  have hb0 : len0 ≤ 9223372036854775807 := by have := hw.1; have := hw.2.1; unfold maxLen at *; omega
  have W0 := Lib.hid w0; clear w0 w1 w2 hw
  go_enter Try.func4, Try.ntmps4
  go_wp2_with fail
  refine (zzBytes_SetIL _ _ _ _ _ _ hb0).mono ?_
  rintro e w' ⟨b, rfl, rfl⟩
  cases b
  · go_wp2_with fail
    go_ret
    exact ⟨rfl, Below.refl _ _⟩
  by_cases h2 : 65536 < len0
  · go_wp2_with fail
    go_ret
    exact ⟨rfl, Below.refl _ _⟩
  go_wp2_with fail
  refine (zzFodder_any _ _ _ _ z0 W0.out (by omega)).mono ?_
  rintro e w1 ⟨v, rfl, hf1, hb1⟩
  have hlen : ((z0.take len0).map mkK).length ≤ 1048576 := by simp; omega
  generalize (z0.take len0).map mkK = l at *
  have HF1 := Lib.hid hf1; clear hf1
  go_wp2_with fail
  refine (ZZHasNewLines_any _ _ _ _ HF1.out).mono ?_
  rintro e w2 ⟨rfl, hb2⟩
  go_wp2_with fail
  refine (ZZSetIndents_any _ _ _ _ _ _ (HF1.out.below hb2 (Nat.le_refl _)) hlen).mono ?_
  rintro e w3 ⟨rfl, hf3, hk3⟩
  have HF3 := Lib.hid hf3; clear hf3
  have hb3 : Below w.heap.size w2 w3 := by
    obtain ⟨a, cap, hv, _⟩ := HF1.out.slice
    have h1 := hb1.size
    have h2 := hb2.size
    refine (hk3 (match v.ownBlock with | some g => [g] | none => []) ?_).below (by omega) ?_
    · intro g hg; rw [hg]; simp
    · intro k hk
      cases hv : v.ownBlock with
      | none => rw [hv] at hk; simp at hk
      | some g => rw [hv] at hk; simp at hk; subst hk; exact (World.ownsRow.lt HF1.out _ hv).1
  clear hk3
  go_wp2_with fail
  refine (ZZHasNewLines_any _ _ _ _ HF3.out).mono ?_
  rintro e w4 ⟨rfl, hb4⟩
  rw [anyNL_reAll]
  cases hn : anyNL l
  all_goals
    go_wp2_with fail
    refine (ZZContainsNewline_any _ _ _ _ (HF3.out.below hb4 (Nat.le_refl _))).mono ?_
    rintro e w5 ⟨rfl, hb5⟩
    rw [anyNL_reAll, hn]
    go_wp2_with fail
    go_ret
    have := hb1.size
    have := hb2.size
    have := hb3.size
    have := hb4.size
    exact ⟨rfl, (((hb1.trans (hb2.mono (by omega))).trans hb3).trans (hb4.mono (by omega))).trans (hb5.mono (by omega))⟩
end fnSetIndentsKeepsHasNewLines
end Go.Proofs.Ytecldheglbojaaa
