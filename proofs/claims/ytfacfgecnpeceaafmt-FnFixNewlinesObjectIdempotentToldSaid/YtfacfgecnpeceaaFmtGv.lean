/- The contracts of n008_124's zzObjOpen and zzObjOther. -/
import Derived.Test.YtfacfgecnpeceaaFmtGy
import Derived.Test.YtfacfgecnpeceaaFmtGb
namespace Go.Proofs.YtfacfgecnpeceaaFmt
open Go.ChangeShapes Go.WideShapes Go.ChangeAt Go.RowKit

/-- The row of literals. -/
def LitR (w : World) (lb n : Nat) (F : Gs) : Prop := ∀ j, j < n → w.cell? ⟨lb, j, none⟩ = some (.pointer (if F.kd j = 3 then some ⟨F.y j, 0, none⟩ else none))
theorem LitR.kept {w w' : World} {lb n : Nat} {F : Gs} (h : LitR w lb n F) (q : Kept [] w w') : LitR w' lb n F := fun j hj => q.cell (h j hj) (by simp)

set_option maxRecDepth 100000 in
set_option maxHeartbeats 2000000 in
theorem zzObjOpen_any (w : World) (base ob : Nat) (F : Gs) (Q : Nat → Prop) (v : Nat × Nat → Value) (l : Nat × Nat → List FE) (h : OB w base ob F Q v l) (lb n : Nat) (hn : F.nf = n) (hl : LitR w lb n F) (i : Nat) (hi : i < n) :
    Calls Tryf.prog 12 #[.pointer (some ⟨ob, 0, none⟩), .slice (some ⟨lb, 0, none⟩) n n, .int .i64 i] w fun e w' => e = .returned (v (i, 0)) ∧ Kept [] w w' := by
  have hL := hl i hi
  have c0 := h.c0
  obtain ⟨ml1, ml2, ml3⟩ := h.ml
  unfold maxLen at ml2
  rw [hn] at c0 ml1 ml3
  have hi' : i < F.nf := by omega
  obtain ⟨va, vn, vc, hv⟩ := (h.fam.fod _ (gI_o hi')).isSlice
  have i1 : (0 : Int) ≤ (i : Int) := by omega
  have i2 : (i : Int) < (n : Int) := by omega
  rw [hv]
  by_cases hs : F.kd i = 3
  · have e0 := (h.cy i hi' hs).1
    rw [hv] at e0
    rw [if_pos hs] at hL
    clear h hl hv hn
    go_enter Tryf.func12, Tryf.ntmps12
    go_wp2_with fail
    go_ret
    exact ⟨rfl, Kept.refl _ _⟩
  · have e0 := h.co i hi' hs
    rw [hv] at e0
    rw [if_neg hs] at hL
    clear h hl hv hn
    go_enter Tryf.func12, Tryf.ntmps12
    go_wp2_with fail
    go_ret
    exact ⟨rfl, Kept.refl _ _⟩

set_option maxRecDepth 100000 in
set_option maxHeartbeats 2000000 in
theorem zzObjOther_any (w : World) (base ob : Nat) (F : Gs) (Q : Nat → Prop) (v : Nat × Nat → Value) (l : Nat × Nat → List FE) (h : OB w base ob F Q v l) (lb n : Nat) (hn : F.nf = n) (hl : LitR w lb n F) (i : Nat) (hi : i < n) :
    Calls Tryf.prog 13 #[.pointer (some ⟨ob, 0, none⟩), .slice (some ⟨lb, 0, none⟩) n n, .int .i64 i] w fun e w' => e = .returned (v (i, 1)) ∧ Kept [] w w' := by
  have hL := hl i hi
  have c0 := h.c0
  obtain ⟨ml1, ml2, ml3⟩ := h.ml
  unfold maxLen at ml2
  rw [hn] at c0 ml1 ml3
  have hi' : i < F.nf := by omega
  obtain ⟨va, vn, vc, hv⟩ := (h.fam.fod _ (gI_t hi')).isSlice
  have i1 : (0 : Int) ≤ (i : Int) := by omega
  have i2 : (i : Int) < (n : Int) := by omega
  rw [hv]
  by_cases hs : F.kd i = 3
  · have e0 := h.ct3 i hi' hs
    rw [hv] at e0
    rw [if_pos hs] at hL
    clear h hl hv hn
    go_enter Tryf.func13, Tryf.ntmps13
    go_wp2_with fail
    go_ret
    exact ⟨rfl, Kept.refl _ _⟩
  · have e0 := h.ct i hi' hs
    rw [hv] at e0
    rw [if_neg hs] at hL
    clear h hl hv hn
    go_enter Tryf.func13, Tryf.ntmps13
    go_wp2_with fail
    go_ret
    exact ⟨rfl, Kept.refl _ _⟩
end Go.Proofs.YtfacfgecnpeceaaFmt
