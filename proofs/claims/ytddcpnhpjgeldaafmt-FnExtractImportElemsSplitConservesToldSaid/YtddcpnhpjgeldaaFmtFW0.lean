/- Binds that a law makes one by one; n008_135's minIntB2. -/
import Derived.Test.YtddcpnhpjgeldaaFmtFS7
namespace Go.Proofs.YtddcpnhpjgeldaaFmt
open Go.ChangeShapes Go.WideShapes Go.ChangeAt Go.RowKit

theorem min_any (w : World) (a b : Nat) : Calls Tryf.prog 8 #[.int .i64 (a : Int), .int .i64 (b : Int)] w fun e w' => e = .returned (.int .i64 ((min a b : Nat) : Int)) ∧ w = w' := by
  by_cases h : (a : Int) < (b : Int)
  · have e : min a b = a := by omega
    rw [e]
    go_enter Tryf.func8, Tryf.ntmps8
    go_wp2_with fail
    go_ret
    exact ⟨rfl, rfl⟩
  · have e : min a b = b := by omega
    rw [e]
    go_enter Tryf.func8, Tryf.ntmps8
    go_wp2_with fail
    go_ret
    exact ⟨rfl, rfl⟩

theorem BndAt.nil (w : World) (files : List ByteArray) (dd : List (List ZE)) : BndAt w files dd [] := fun i y hy => by simp at hy
theorem BndAt.snoc {w w' : World} {files : List ByteArray} {dd : List (List ZE)} {ys : List BX} {y : BX} {s : ByteArray} {S : List Nat} (h : BndAt w files dd ys) (k : Kept S w w') (hS : ∀ g ∈ S, ∃ cs, w.heap[g]? = some (.cells cs 44 (0, 0))) (hs : files[ys.length]? = some s) (hi : ImpAt w y.imp s) (hf : F0 w y.vf (adjC dd ys.length)) :
    BndAt w' files dd (ys ++ [y]) := by
  have n1 : (44 : Nat) ≠ 72 := by decide
  have n2 : (44 : Nat) ≠ 70 := by decide
  have n3 : (44 : Nat) ≠ 56 := by decide
  intro i x hx
  by_cases hl : i < ys.length
  · rw [List.getElem?_append_left hl] at hx
    obtain ⟨⟨s', h1, h2⟩, h3⟩ := h i x hx
    exact ⟨⟨s', h1, h2.keptT k hS n1 n2⟩, h3.keptT k hS n3⟩
  · rw [List.getElem?_append_right (by omega)] at hx
    have h0 : i - ys.length = 0 := by
      by_cases h0 : i - ys.length = 0
      · exact h0
      · rw [List.getElem?_eq_none (by simp; omega)] at hx; cases hx
    rw [h0] at hx
    obtain rfl : y = x := by simpa using hx
    obtain rfl : i = ys.length := by omega
    exact ⟨⟨s, hs, hi.keptT k hS n1 n2⟩, hf.keptT k hS n3⟩
/-- v is a slice of m binds that the law made: of these names, files and fodders. -/
def Bnds (w : World) (base : Nat) (v : Value) (m : Nat) (vars files : List ByteArray) (dd : List (List ZE)) : Prop :=
  ∃ ys : List BX, OwnR 44 12 encY w base v ys ∧ ys.length = m ∧ ys.map BX.var = vars.take m ∧ BndAt w files dd ys
theorem f0_nil (w : World) (i : Nat) : F0 w (none, 0, 0) (adjC [] i) := ⟨0, [], fod_nil _ _, by rw [adjC_no (Nat.zero_le _)]; rfl⟩
end Go.Proofs.YtddcpnhpjgeldaaFmt
