/- The walk of the law FnEnforceMaxBlankLinesIdempotentClamp: it returns true at every four ints; only new blocks are made. -/
import Derived.Test.YtecldheglbojaaaRows
import Derived.WalkKit
import Derived.ProofKit
import Derived.OpenShut
import Derived.Outline
import Derived.RegionTactic
import Derived.ChangeAlike
import Derived.Deep.QuietTactic
import Derived.BigQuiet
namespace Go.Proofs.Ytecldheglbojaaa.fnEnforceMaxBlankLinesIdempotentClamp
open Go.ChangeShapes Go.WideShapes Go.ChangeAt Go.RowKit
set_option linter.unusedVariables false
set_option maxHeartbeats 400000 in
theorem fe_inter (bc be : Nat) (w : World) (kind : Int) (hk : kind = 1)
    (c1 : w.cell? ⟨be, 1, none⟩ = some (.int .i64 kind)) :
    Calls Try.prog 15 #[.pointer (some ⟨bc, 0, none⟩), .nilIface, .pointer (some ⟨be, 0, none⟩), .nilIface] w fun e w' => e = .returned (.tuple #[]) ∧ w = w' := by
  subst hk
  go_enter Try.func15, Try.ntmps15
  go_wp2
  go_end0
  exact ⟨rfl, rfl⟩
set_option maxHeartbeats 400000 in
theorem fe_keep (bc be : Nat) (w : World) (kind bl mx : Int) (hk : (kind != 1) = true) (hb : bl ≤ mx)
    (c1 : w.cell? ⟨be, 1, none⟩ = some (.int .i64 kind)) (c2 : w.cell? ⟨be, 2, none⟩ = some (.int .i64 bl)) 
    (c3 : w.cell? ⟨bc, 1, none⟩ = some (.int .i64 mx)) :
    Calls Try.prog 15 #[.pointer (some ⟨bc, 0, none⟩), .nilIface, .pointer (some ⟨be, 0, none⟩), .nilIface] w fun e w' => e = .returned (.tuple #[]) ∧ ∃ n, w.drewN n = w' := by
  have hb' : decide (mx < bl) = false := by simp; omega
  go_enter Try.func15, Try.ntmps15
  go_wp2
  go_quiet (fail)
  go_wp2
  go_end0
  exact ⟨rfl, _, rfl⟩
set_option maxHeartbeats 400000 in
theorem fe_set (bc be : Nat) (w : World) (kind bl mx : Int) (hk : (kind != 1) = true) (hb : mx < bl)
    (c1 : w.cell? ⟨be, 1, none⟩ = some (.int .i64 kind)) (c2 : w.cell? ⟨be, 2, none⟩ = some (.int .i64 bl)) 
    (c3 : w.cell? ⟨bc, 1, none⟩ = some (.int .i64 mx)) (f2 : w.frozen? ⟨be, 2, none⟩ = false) :
    Calls Try.prog 15 #[.pointer (some ⟨bc, 0, none⟩), .nilIface, .pointer (some ⟨be, 0, none⟩), .nilIface] w fun e w' => e = .returned (.tuple #[]) ∧ ∃ n, (w.setCell ⟨be, 2, none⟩ (.int .i64 mx)).drewN n = w' := by
  have hb' : decide (mx < bl) = true := by simp; omega
  go_enter Try.func15, Try.ntmps15
  go_wp2
  go_quiet (fail)
  go_wp2
  go_end0
  exact ⟨rfl, _, rfl⟩
set_option maxHeartbeats 400000 in
theorem walk (a0 : Int) (a1 : Int) (a2 : Int) (a3 : Int) (w0 : (Lit.int .i64 a0).wf = true) (w1 : (Lit.int .i64 a1).wf = true) (w2 : (Lit.int .i64 a2).wf = true) (w3 : (Lit.int .i64 a3).wf = true) (w : World) :
    Calls Try.prog 6 #[.int .i64 a0, .int .i64 a1, .int .i64 a2, .int .i64 a3] w fun e w' => e = .returned (.bool true) ∧ Grown w w' := by
  clear w0 w1 w2 w3
  by_cases hk : a0 = 1
  · subst hk
    go_enter Try.func6, Try.ntmps6
    go_wp2_with fail
    refine (fe_inter _ _ _ _ rfl (by go_simp)).mono ?_
    rintro e w' ⟨rfl, rfl⟩
    go_wp2_with fail
    refine (fe_inter _ _ _ _ rfl (by go_simp)).mono ?_
    rintro e w' ⟨rfl, rfl⟩
    go_wp2_with fail
    go_ret
    exact ⟨rfl, by repeat (first | exact Grown.refl _ | apply Grown.drew | apply Grown.alloc)⟩
  · have hk' : (a0 != 1) = true := by simpa using hk
    clear hk
    by_cases hb : a1 ≤ a3
    · go_enter Try.func6, Try.ntmps6
      go_wp2_with fail
      refine (fe_keep _ _ _ _ _ _ hk' hb (by go_simp) (by go_simp) (by go_simp)).mono ?_
      rintro e w' ⟨rfl, n, rfl⟩
      go_wp2_with fail
      refine (fe_keep _ _ _ _ _ _ hk' hb (by go_simp) (by go_simp) (by go_simp)).mono ?_
      rintro e w' ⟨rfl, n, rfl⟩
      go_wp2_with fail
      go_ret
      exact ⟨rfl, by repeat (first | exact Grown.refl _ | apply Grown.drew | apply Grown.alloc)⟩
    · have hb : a3 < a1 := by omega
      go_enter Try.func6, Try.ntmps6
      go_wp2_with fail
      refine (fe_set _ _ _ _ _ _ hk' hb (by go_simp) (by go_simp) (by go_simp) (by go_simp)).mono ?_
      rintro e w' ⟨rfl, n, rfl⟩
      go_wp2_with fail
      refine (fe_keep _ _ _ a0 a3 a3 hk' (Int.le_refl _) (by go_simp) (by go_simp) (by go_simp)).mono ?_
      rintro e w' ⟨rfl, n, rfl⟩
      go_wp2_with fail
      go_ret
      exact ⟨rfl, by repeat (first | exact Grown.refl _ | apply Grown.drew | apply Grown.alloc)⟩
end Go.Proofs.Ytecldheglbojaaa.fnEnforceMaxBlankLinesIdempotentClamp
