/- The contract of ast.FodderEnsureCleanNewline, alone (without the counts of XNL). -/
import Derived.Test.YtddcpnhpjgeldaaFmtFApP
import Derived.Test.YtddcpnhpjgeldaaFmtNode
namespace Go.Proofs.YtddcpnhpjgeldaaFmt
open Go.ChangeShapes Go.WideShapes Go.ChangeAt Go.RowKit

theorem Appd.before {w0 w w' : World} {base pb po : Nat} {v : Value} {l' : List FE} (h : Appd w base pb po v l' w') (hk : Kept [] w0 w) (hp : pb < w0.heap.size) : Appd w0 base pb po v l' w' := by
  obtain ⟨v', h1, h2, h3, h4, h5, h6⟩ := h
  refine ⟨v', h1, h2, h3, (hk.mono (by simp)).trans h4, fun g hg => ?_, (Rest.of_block (hk.block pb hp (by simp))).trans h6⟩
  obtain ⟨e1, e2⟩ := h5 g hg
  refine ⟨e1, ?_⟩
  rcases e2 with e | e
  · exact Or.inl e
  · exact Or.inr (Nat.le_trans hk.size e)

set_option maxRecDepth 100000 in
set_option maxHeartbeats 1000000 in
theorem ensure_clean (w : World) (base pb po : Nat) (v : Value) (l : List FE) (h : Fod w base v l) (hp : w.cell? ⟨pb, po, none⟩ = some v) (hcl : clean l = true) :
    Calls Tryf.prog 26 #[.pointer (some ⟨pb, po, none⟩)] w fun en w' => en = .returned (.tuple #[]) ∧ w = w' := by
  obtain ⟨va, vn, vc, rfl⟩ := h.isSlice
  have H := Lib.hid h; clear h
  have HC := Lib.hid hcl; clear hcl
  go_enter Tryf.func26, Tryf.ntmps26
  go_wp2_with fail
  refine (hasClean_any _ base _ l H.out).mono ?_
  rintro e w' ⟨rfl, rfl⟩
  rw [HC.out]
  go_wp2_with fail
  go_end0
  exact ⟨rfl, rfl⟩

set_option maxRecDepth 100000 in
set_option maxHeartbeats 1000000 in
theorem ensure_add (w : World) (base pb po : Nat) (v : Value) (l : List FE) (h : Fod w base v l) (hp : w.cell? ⟨pb, po, none⟩ = some v) (hpf : w.frozen? ⟨pb, po, none⟩ = false) (hpv : ∀ g, v.ownBlock = some g → g ≠ pb)
    (hlen : l.length ≤ 1048576) (hb : base ≤ w.heap.size) (hcl : clean l = false) :
    Calls Tryf.prog 26 #[.pointer (some ⟨pb, po, none⟩)] w fun en w' => en = .returned (.tuple #[]) ∧ ∃ ca, Appd w base pb po v (l ++ [⟨ca, 0, 0, 0, 0, 0⟩]) w' := by
  obtain ⟨va, vn, vc, rfl⟩ := h.isSlice
  have H := Lib.hid h; clear h
  have HC := Lib.hid hcl; clear hcl
  have HPV := Lib.hid hpv; clear hpv
  have hpl := World.block_lt_of_cell? w _ hp
  dsimp only at hpl
  go_enter Tryf.func26, Tryf.ntmps26
  go_wp2_with fail
  refine (hasClean_any _ base _ l H.out).mono ?_
  rintro e w' ⟨rfl, rfl⟩
  rw [HC.out]
  go_wp2_with fail
  refine (mkElem_any _ 0 0 0 _ 0 0 (Or.inl ⟨rfl, by omega⟩) (by omega)).mono ?_
  rintro e w1 ⟨rfl, hw1⟩
  have hk : Kept [] w' w1 := hw1 ▸ ((Kept.refl [] w').alloc _).alloc _
  clear hw1
  have HK := Lib.hid hk; clear hk
  go_wp2_with fail
  refine (fapp_plain _ base pb po _ l ⟨some ⟨w'.heap.size, 0, none⟩, 0, 0, 0, 0, 0⟩ (H.out.kept HK.out (by simp)) (HK.out.cell hp (by simp)) ((HK.out.frozen hpl (by simp)).trans hpf) HPV.out hlen (Nat.le_trans hb HK.out.size) (by rw [HC.out]; rfl) (by simp)).mono ?_
  rintro e w2 ⟨rfl, hA⟩
  have HA := Lib.hid (hA.before HK.out hpl); clear hA
  go_wp2_with fail
  go_end0
  exact ⟨rfl, _, HA.out⟩
end Go.Proofs.YtddcpnhpjgeldaaFmt
