/- The walk of the law FnRemovePlusRewriteTable: it returns true at every argument, and writes nothing that was there. -/
import Derived.Test.YtaedhbpfmjiheaaFmtRw00
import Derived.Test.YtaedhbpfmjiheaaFmtRw00r
import Derived.Test.YtaedhbpfmjiheaaFmtRw01
import Derived.Test.YtaedhbpfmjiheaaFmtRw02
import Derived.Test.YtaedhbpfmjiheaaFmtRw10
import Derived.Test.YtaedhbpfmjiheaaFmtRw10r
import Derived.Test.YtaedhbpfmjiheaaFmtRw11
import Derived.Test.YtaedhbpfmjiheaaFmtRw12
import Derived.Test.YtaedhbpfmjiheaaFmtRw20
import Derived.Test.YtaedhbpfmjiheaaFmtRw21
import Derived.Test.YtaedhbpfmjiheaaFmtRw22
namespace Go.Proofs.YtaedhbpfmjiheaaFmt
open Go.ChangeShapes Go.WideShapes Go.ChangeAt Go.RowKit

namespace fnRemovePlusRewriteTable
set_option maxRecDepth 100000 in
set_option maxHeartbeats 8000000 in
theorem walk (a0 a1 a2 a3 a4 a5 a6 a7 : Int) (w : World) (_ : (Lit.int .i64 a0).wf = true) (_ : (Lit.int .i64 a1).wf = true) (_ : (Lit.int .i64 a2).wf = true) (_ : (Lit.int .i64 a3).wf = true) (_ : (Lit.int .i64 a4).wf = true) (_ : (Lit.int .i64 a5).wf = true) (_ : (Lit.int .i64 a6).wf = true) (_ : (Lit.int .i64 a7).wf = true) :
    Calls Tryf.prog 3 #[.int .i64 a0, .int .i64 a1, .int .i64 a2, .int .i64 a3, .int .i64 a4, .int .i64 a5, .int .i64 a6, .int .i64 a7] w fun e w' => e = .returned (.bool true) ∧ Below w.heap.size w w' := by
  by_cases g1 : a3 < 0
  · go_enter Tryf.func3, Tryf.ntmps3
    go_wp2_with fail
    go_ret
    exact ⟨rfl, Below.refl _ _⟩
  by_cases g2 : 4096 < a3
  · go_enter Tryf.func3, Tryf.ntmps3
    go_wp2_with fail
    go_ret
    exact ⟨rfl, Below.refl _ _⟩
  by_cases g3 : a4 < 0
  · go_enter Tryf.func3, Tryf.ntmps3
    go_wp2_with fail
    go_ret
    exact ⟨rfl, Below.refl _ _⟩
  by_cases g4 : 4096 < a4
  · go_enter Tryf.func3, Tryf.ntmps3
    go_wp2_with fail
    go_ret
    exact ⟨rfl, Below.refl _ _⟩
  by_cases g5 : a5 < 0
  · go_enter Tryf.func3, Tryf.ntmps3
    go_wp2_with fail
    go_ret
    exact ⟨rfl, Below.refl _ _⟩
  by_cases g6 : 4096 < a5
  · go_enter Tryf.func3, Tryf.ntmps3
    go_wp2_with fail
    go_ret
    exact ⟨rfl, Below.refl _ _⟩
  by_cases g7 : a1 < 0
  · go_enter Tryf.func3, Tryf.ntmps3
    go_wp2_with fail
    go_ret
    exact ⟨rfl, Below.refl _ _⟩
  by_cases g8 : 2 < a1
  · go_enter Tryf.func3, Tryf.ntmps3
    go_wp2_with fail
    go_ret
    exact ⟨rfl, Below.refl _ _⟩
  by_cases g9 : a2 < 0
  · go_enter Tryf.func3, Tryf.ntmps3
    go_wp2_with fail
    go_ret
    exact ⟨rfl, Below.refl _ _⟩
  by_cases g10 : 2 < a2
  · go_enter Tryf.func3, Tryf.ntmps3
    go_wp2_with fail
    go_ret
    exact ⟨rfl, Below.refl _ _⟩
  by_cases g11 : a6 < 0
  · go_enter Tryf.func3, Tryf.ntmps3
    go_wp2_with fail
    go_ret
    exact ⟨rfl, Below.refl _ _⟩
  by_cases g12 : 2 < a6
  · go_enter Tryf.func3, Tryf.ntmps3
    go_wp2_with fail
    go_ret
    exact ⟨rfl, Below.refl _ _⟩
  by_cases g13 : a7 < 0
  · go_enter Tryf.func3, Tryf.ntmps3
    go_wp2_with fail
    go_ret
    exact ⟨rfl, Below.refl _ _⟩
  by_cases g14 : 2 < a7
  · go_enter Tryf.func3, Tryf.ntmps3
    go_wp2_with fail
    go_ret
    exact ⟨rfl, Below.refl _ _⟩
  obtain ⟨n3, rfl⟩ : ∃ n : Nat, a3 = n := ⟨a3.toNat, by omega⟩
  obtain ⟨n4, rfl⟩ : ∃ n : Nat, a4 = n := ⟨a4.toNat, by omega⟩
  obtain ⟨n5, rfl⟩ : ∃ n : Nat, a5 = n := ⟨a5.toNat, by omega⟩
  have b3 : n3 ≤ 4096 := by omega
  have b4 : n4 ≤ 4096 := by omega
  have b5 : n5 ≤ 4096 := by omega
  have r6 : 0 ≤ a6 ∧ a6 ≤ 2 := by omega
  have r7 : 0 ≤ a7 ∧ a7 ≤ 2 := by omega
  have h1 : a1 = 0 ∨ a1 = 1 ∨ a1 = 2 := by omega
  have h2 : a2 = 0 ∨ a2 = 1 ∨ a2 = 2 := by omega
  clear g1 g2 g3 g4 g5 g6 g7 g8 g9 g10 g11 g12 g13 g14
  rcases h1 with rfl | rfl | rfl <;> rcases h2 with rfl | rfl | rfl
  · by_cases hop : a0 = 3
    · subst hop
      exact core_00r n3 n4 n5 a6 a7 b3 b4 b5 r6 r7 w
    · exact core_00 a0 n3 n4 n5 a6 a7 b3 b4 b5 r6 r7 w hop
  · exact core_01 a0 n3 n4 n5 a6 a7 b3 b4 b5 r6 r7 w
  · exact core_02 a0 n3 n4 n5 a6 a7 b3 b4 b5 r6 r7 w
  · by_cases hop : a0 = 3
    · subst hop
      exact core_10r n3 n4 n5 a6 a7 b3 b4 b5 r6 r7 w
    · exact core_10 a0 n3 n4 n5 a6 a7 b3 b4 b5 r6 r7 w hop
  · exact core_11 a0 n3 n4 n5 a6 a7 b3 b4 b5 r6 r7 w
  · exact core_12 a0 n3 n4 n5 a6 a7 b3 b4 b5 r6 r7 w
  · exact core_20 a0 n3 n4 n5 a6 a7 b3 b4 b5 r6 r7 w
  · exact core_21 a0 n3 n4 n5 a6 a7 b3 b4 b5 r6 r7 w
  · exact core_22 a0 n3 n4 n5 a6 a7 b3 b4 b5 r6 r7 w
end fnRemovePlusRewriteTable
end Go.Proofs.YtaedhbpfmjiheaaFmt
