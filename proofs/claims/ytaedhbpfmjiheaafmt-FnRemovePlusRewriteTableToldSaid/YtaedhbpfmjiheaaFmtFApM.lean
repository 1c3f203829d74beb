/- The contract of ast.FodderAppend where a bare line end merges into the line end or paragraph before it. -/
import Derived.Test.YtaedhbpfmjiheaaFmtFApp
namespace Go.Proofs.YtaedhbpfmjiheaaFmt
open Go.ChangeShapes Go.WideShapes Go.ChangeAt Go.RowKit

set_option maxRecDepth 100000 in
set_option maxHeartbeats 1000000 in
theorem fapp_merge (w : World) (base pb po : Nat) (v : Value) (l : List FE) (e x : FE) (n : Nat) (h : Fod w base v l) (hp : w.cell? ⟨pb, po, none⟩ = some v) (hpf : w.frozen? ⟨pb, po, none⟩ = false) (hpv : ∀ g, v.ownBlock = some g → g ≠ pb)
    (hlen : l.length = n + 1) (hn : n ≤ 1048576) (hx : l[n]? = some x) (hcl : clean l = true) (hk : e.k = 0) (hcc : e.cl = 0) :
    Calls Tryf.prog 16 #[.pointer (some ⟨pb, po, none⟩), .agg #[.slice e.ca e.cl e.cc, .int .i64 e.k, .int .i64 e.b, .int .i64 e.i]] w fun en w' => en = .returned (.tuple #[]) ∧
      Appd w base pb po v (l.set n { x with b := wrap64 (x.b + e.b), i := e.i }) w' := by
  obtain ⟨a, cap, rfl, hlc, hcm, ha⟩ := h.slice
  unfold maxLen at hcm
  have hpl := World.block_lt_of_cell? w _ hp
  dsimp only at hpl
  obtain ⟨g, rfl, hg1, hg2⟩ := ha n (by omega)
  obtain ⟨x', hx', c0, c1, c2, c3⟩ := h.cells n (by omega)
  obtain rfl : x = x' := by rw [hx] at hx'; simpa using hx'
  have f2 := h.frozen (n * 4 + 2)
  have f3 := h.frozen (n * 4 + 3)
  rw [hlen] at h hp hlc ⊢
  have hgp : g ≠ pb := hpv g rfl
  obtain ⟨ca, cl, cc, k, b, i⟩ := e
  obtain ⟨xa, xl, xc, xk, xb, xi⟩ := x
  dsimp only at *
  subst hk hcc
  have hcl' : ∀ o, Fod (w.alloc o) base (.slice (some ⟨g, 0, none⟩) (n + 1) cap) l := fun o => h.kept ((Kept.refl [] _).alloc o) (by simp)
  have hset : ∀ W, Fod W base (.slice (some ⟨g, 0, none⟩) (n + 1) cap) l → Fod ((W.setCell ⟨g, n * 4 + 3, none⟩ (.int .i64 i)).setCell ⟨g, n * 4 + 2, none⟩ (.int .i64 (wrap64 (xb + b)))) base (.slice (some ⟨g, 0, none⟩) (n + 1) cap) (l.set n ⟨xa, xl, xc, xk, wrap64 (xb + b), i⟩) := by
    intro W hW
    have s1 := hW.set n _ ⟨xa, xl, xc, xk, xb, i⟩ hx 3 (by omega) (.int .i64 i) rfl
    have s2 := s1.set n ⟨xa, xl, xc, xk, xb, i⟩ ⟨xa, xl, xc, xk, wrap64 (xb + b), i⟩ (by rw [List.getElem?_set_self (by omega)]) 2 (by omega) (.int .i64 (wrap64 (xb + b))) rfl
    rwa [List.set_set] at s2
  have HS := Lib.hid hset; clear hset
  have HH := Lib.hid hcl'; clear hcl'
  have HCL := Lib.hid hcl; clear hcl
  have HPV := Lib.hid hpv; clear hpv
  clear ha hx hx' c0 c1 h hlen
  go_enter Tryf.func16, Tryf.ntmps16
  go_wp2_with fail
  refine (hasClean_any _ base _ l (HH.out _)).mono ?_
  rintro e w' ⟨rfl, rfl⟩
  rw [HCL.out]
  go_wp2_with fail
  go_quiet (fail)
  go_wp2_with fail
  go_region
  go_wp2_with fail
  go_end0
  have hk : Kept [g] w (((w.alloc (.cells #[.slice ca 0 cc, .int .i64 0, .int .i64 b, .int .i64 i] 83)).drewN nq).setCell ⟨g, n * 4 + 3, none⟩ (.int .i64 i)) := ((((Kept.refl _ _).alloc _).drewN _).setCell (Or.inl (by simp)) _)
  refine ⟨rfl, .slice (some ⟨g, 0, none⟩) (n + 1) cap, ?_, ?_, ?_, (hk.setCell (Or.inl (by simp)) _).drew.mono (by simp [Value.ownBlock]), fun g' hg' => ?_, Rest.of_block ?_⟩
  · exact ((hk.setCell (p := ⟨g, n * 4 + 2, none⟩) (Or.inl (by simp)) _).drew.cell hp (by simpa using Ne.symm hgp))
  · exact (((hk.setCell (p := ⟨g, n * 4 + 2, none⟩) (Or.inl (by simp)) _).drew.frozen hpl (by simpa using Ne.symm hgp)).trans hpf)
  · exact (HS.out _ ((HH.out _).kept ((Kept.refl [] _).drewN _) (by simp))).kept (Kept.refl [] _).drew (by simp)
  · simp [Value.ownBlock] at hg'
    subst hg'
    exact ⟨hgp, Or.inl rfl⟩
  · exact (hk.setCell (p := ⟨g, n * 4 + 2, none⟩) (Or.inl (by simp)) _).drew.block pb hpl (by simpa using Ne.symm hgp)
end Go.Proofs.YtaedhbpfmjiheaaFmt
