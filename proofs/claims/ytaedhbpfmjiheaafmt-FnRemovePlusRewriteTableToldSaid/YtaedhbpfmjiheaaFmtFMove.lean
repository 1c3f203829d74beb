/- The contract of ast.FodderMoveFront: the second fodder is put before the first and emptied. -/
import Derived.Test.YtaedhbpfmjiheaaFmtFConc
import Derived.Deep.RegionLaw
namespace Go.Proofs.YtaedhbpfmjiheaaFmt
open Go.ChangeShapes Go.WideShapes Go.ChangeAt Go.RowKit

/-- Of the blocks of p and q no cell but those two has changed. -/
def Rest2 (p q : Addr) (w w' : World) : Prop :=
  (∀ r : Addr, (r.block = p.block ∨ r.block = q.block) → r ≠ p → r ≠ q → w'.cell? r = w.cell? r) ∧ ∀ r : Addr, (r.block = p.block ∨ r.block = q.block) → w'.frozen? r = w.frozen? r

/-- What FodderMoveFront leaves. -/
def Moved (w : World) (base : Nat) (p q : Addr) (va vb : Value) (la lb : List FE) (w' : World) : Prop :=
  ∃ va' vb' l', Conc lb la l' ∧ w'.cell? p = some va' ∧ w'.cell? q = some vb' ∧ Fod w' base va' l' ∧ Fod w' base vb' [] ∧
    (∀ g, va'.ownBlock = some g → g ≠ p.block ∧ g ≠ q.block ∧ vb'.ownBlock ≠ some g ∧ (va.ownBlock = some g ∨ vb.ownBlock = some g ∨ w.heap.size ≤ g)) ∧
    (∀ g, vb'.ownBlock = some g → g ≠ p.block ∧ g ≠ q.block ∧ w.heap.size ≤ g) ∧ Kept (p.block :: q.block :: vb.ownBlock.toList) w w' ∧ Rest2 p q w w'

theorem moved_close {w w1 : World} {base ab ao bb bo n cap' s : Nat} {a' : Option Addr} {va vb : Value} {la lb l' : List FE} (hk1 : Kept vb.ownBlock.toList w w1) (hf1 : Fod w1 base (.slice a' n cap') l')
    (ho1 : ∀ g, (Value.slice a' n cap').ownBlock = some g → vb.ownBlock = some g ∨ va.ownBlock = some g ∨ w.heap.size ≤ g) (hcon : Conc lb la l')
    (hca : w.cell? ⟨ab, ao, none⟩ = some va) (hcb : w.cell? ⟨bb, bo, none⟩ = some vb) (hpq : (⟨ab, ao, none⟩ : Addr) ≠ ⟨bb, bo, none⟩)
    (hoa : ∀ g, va.ownBlock = some g → g ≠ ab ∧ g ≠ bb ∧ vb.ownBlock ≠ some g) (hob : ∀ g, vb.ownBlock = some g → g ≠ ab ∧ g ≠ bb) (hbs : base ≤ w.heap.size) (hs : s = w1.heap.size) :
    Moved w base ⟨ab, ao, none⟩ ⟨bb, bo, none⟩ va vb la lb (((w1.setCell ⟨ab, ao, none⟩ (.slice a' n cap')).setCell ⟨bb, bo, none⟩ (.slice (some ⟨s, 0, none⟩) 0 0)).alloc (.cells #[] 83)) := by
  subst hs
  have hal := World.block_lt_of_cell? w _ hca
  have hbl := World.block_lt_of_cell? w _ hcb
  dsimp only at hal hbl
  have hs1 := hk1.size
  have hna : ab ∉ vb.ownBlock.toList := by intro hm; simp at hm; exact (hob _ hm).1 rfl
  have hnb : bb ∉ vb.ownBlock.toList := by intro hm; simp at hm; exact (hob _ hm).2 rfl
  have hca1 := hk1.cell hca hna
  have hcb1 := hk1.cell hcb hnb
  have hne1 : ∀ g, (Value.slice a' n cap').ownBlock = some g → g ≠ ab ∧ g ≠ bb := by
    intro g hg
    rcases ho1 g hg with h | h | h
    · exact hob g h
    · exact ⟨(hoa g h).1, (hoa g h).2.1⟩
    · omega
  have hkW : Kept [ab, bb] w1 (((w1.setCell ⟨ab, ao, none⟩ (.slice a' n cap')).setCell ⟨bb, bo, none⟩ (.slice (some ⟨w1.heap.size, 0, none⟩) 0 0)).alloc (.cells #[] 83)) :=
    (((Kept.refl _ _).setCell (Or.inl (by simp)) _).setCell (Or.inl (by simp)) _).alloc _
  have hz : ((w1.setCell ⟨ab, ao, none⟩ (.slice a' n cap')).setCell ⟨bb, bo, none⟩ (.slice (some ⟨w1.heap.size, 0, none⟩) 0 0)).heap.size = w1.heap.size := by simp
  refine ⟨.slice a' n cap', .slice (some ⟨w1.heap.size, 0, none⟩) 0 0, l', hcon, ?_, ?_, ?_, ?_, ?_, ?_, ?_, ?_, ?_⟩
  · rw [World.cell?_alloc_lt _ _ _ (by rw [hz]; dsimp only; omega), World.cell?_setCell_other _ _ _ _ (Ne.symm hpq)]
    exact World.cell?_setCell_same _ _ _ hca1
  · rw [World.cell?_alloc_lt _ _ _ (by rw [hz]; dsimp only; omega)]
    exact World.cell?_setCell_same _ _ _ ((World.cell?_setCell_other _ _ _ _ hpq).trans hcb1)
  · exact hf1.kept hkW (fun g hg hm => by have := hne1 g hg; simp at hm; omega)
  · have := World.ownsRow_made ((w1.setCell ⟨ab, ao, none⟩ (.slice a' n cap')).setCell ⟨bb, bo, none⟩ (.slice (some ⟨w1.heap.size, 0, none⟩) 0 0)) (base := base) (e := 83) (size := 4) #[] 0 (by rw [hz]; omega) (by unfold maxLen; omega) rfl
    rw [hz] at this
    exact this
  · intro g hg
    refine ⟨(hne1 g hg).1, (hne1 g hg).2, ?_, ?_⟩
    · have := (World.ownsRow.lt hf1 g hg).2
      simp [Value.ownBlock]; omega
    · rcases ho1 g hg with h | h | h
      · exact Or.inr (Or.inl h)
      · exact Or.inl h
      · exact Or.inr (Or.inr h)
  · intro g hg
    simp [Value.ownBlock] at hg
    dsimp only
    omega
  · refine (hk1.mono (fun k hk => Or.inl (by simp; simp at hk; exact Or.inr (Or.inr hk)))).then hkW ?_
    intro x hx
    simp at hx
    exact Or.inl (by simp; omega)
  · intro r hr h1 h2
    have hrb : r.block < w.heap.size := by rcases hr with h | h <;> rw [h] <;> assumption
    rw [World.cell?_alloc_lt _ _ _ (by rw [hz]; omega), World.cell?_setCell_other _ _ _ _ (Ne.symm h2), World.cell?_setCell_other _ _ _ _ (Ne.symm h1)]
    exact World.cell?_of_block (hk1.block _ hrb (by rcases hr with h | h <;> rw [h] <;> assumption))
  · intro r hr
    have hrb : r.block < w.heap.size := by rcases hr with h | h <;> rw [h] <;> assumption
    refine (Kept.frozen ((Kept.refl [] _).alloc _) (by rw [hz]; omega) (by simp)).trans ?_
    rw [World.frozen?_setCell, World.frozen?_setCell]
    exact World.frozen?_of_block (hk1.block _ hrb (by rcases hr with h | h <;> rw [h] <;> assumption))

set_option maxRecDepth 100000 in
set_option maxHeartbeats 4000000 in
theorem fmove_any (w : World) (base ab ao bb bo : Nat) (va vb : Value) (la lb : List FE) (ha : Fod w base va la) (hb : Fod w base vb lb)
    (hca : w.cell? ⟨ab, ao, none⟩ = some va) (hcb : w.cell? ⟨bb, bo, none⟩ = some vb) (hfa : w.frozen? ⟨ab, ao, none⟩ = false) (hfb : w.frozen? ⟨bb, bo, none⟩ = false) (hpq : (⟨ab, ao, none⟩ : Addr) ≠ ⟨bb, bo, none⟩)
    (hoa : ∀ g, va.ownBlock = some g → g ≠ ab ∧ g ≠ bb ∧ vb.ownBlock ≠ some g) (hob : ∀ g, vb.ownBlock = some g → g ≠ ab ∧ g ≠ bb)
    (hlen : la.length + lb.length ≤ 1048570) (hbs : base ≤ w.heap.size) (hcl : ∀ x, la[0]? = some x → x.k = 0 → x.cl = 0) :
    Calls Tryf.prog 13 #[.pointer (some ⟨ab, ao, none⟩), .pointer (some ⟨bb, bo, none⟩)] w fun e w' => e = .returned (.tuple #[]) ∧
      Moved w base ⟨ab, ao, none⟩ ⟨bb, bo, none⟩ va vb la lb w' := by
  have HA := Lib.hid ha; clear ha
  have HB := Lib.hid hb; clear hb
  have HOA := Lib.hid hoa; clear hoa
  have HOB := Lib.hid hob; clear hob
  have HCL := Lib.hid hcl; clear hcl
  have HPQ := Lib.hid hpq; clear hpq
  have hal := World.block_lt_of_cell? w _ hca
  have hbl := World.block_lt_of_cell? w _ hcb
  dsimp only at hal hbl
  have hoab : ∀ g, vb.ownBlock = some g → va.ownBlock ≠ some g := fun g hg h => (HOA.out g h).2.2 hg
  have HOAB := Lib.hid hoab; clear hoab
  go_enter Tryf.func13, Tryf.ntmps13
  go_wp2_with fail
  go_region_law (go_simp; go_at_call 15; refine (fconc_any _ base vb va lb la (HB.out.kept (Kept.refl [] _).drew (by simp)) (HA.out.kept (Kept.refl [] _).drew (by simp)) HOAB.out (by omega) hbs HCL.out).mono ?_; rintro e w1 ⟨v', l', rfl, hcon, hf1, hk1, ho1⟩; obtain ⟨a', cap', rfl, -⟩ := hf1.slice; have HCON := Lib.hid hcon; clear hcon; have HF1 := Lib.hid hf1; clear hf1; have hca1 := hk1.cell hca (by intro hm; simp at hm; exact (HOB.out _ hm).1 rfl); have hcb1 := hk1.cell hcb (by intro hm; simp at hm; exact (HOB.out _ hm).2 rfl); have hfa1 := (hk1.frozen hal (by intro hm; simp at hm; exact (HOB.out _ hm).1 rfl)).trans hfa; have hfb1 := (hk1.frozen hbl (by intro hm; simp at hm; exact (HOB.out _ hm).2 rfl)).trans hfb; have HK1 := Lib.hid hk1; clear hk1; have HO1 := Lib.hid ho1; clear ho1)
  all_goals
    obtain ⟨W, hW⟩ : ∃ W, w1.setCell ⟨ab, ao, none⟩ (.slice a' l'.length cap') = W := ⟨_, rfl⟩
    have hcbW : W.cell? ⟨bb, bo, none⟩ = some vb := by rw [← hW]; exact (World.cell?_setCell_other _ _ _ _ HPQ.out).trans hcb1
    have hfbW : W.frozen? ⟨bb, bo, none⟩ = false := by rw [← hW, World.frozen?_setCell]; exact hfb1
    have hblW : bb < W.heap.size := by
      have hs1 : w.heap.size ≤ w1.heap.size := HK1.out.size
      rw [← hW]
      simp
      omega
    rw [hW]
    have HWW := Lib.hid hW; clear hW
    clear hca1 hcb1 hfa1 hfb1
    go_wp2_with fail
    go_end0
    have hk1 : Kept vb.ownBlock.toList w w1 := ⟨HK1.out.os, HK1.out.tape, HK1.out.output, HK1.out.size, HK1.out.block⟩
    rw [← HWW.out]
    exact ⟨rfl, moved_close hk1 HF1.out HO1.out HCON.out hca hcb HPQ.out HOA.out HOB.out hbs (by simp)⟩
end Go.Proofs.YtaedhbpfmjiheaaFmt
