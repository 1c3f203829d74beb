/- The contract of n008_124's ZZFixObject. -/
import Derived.Test.YtfacfgecnpeceaaFmtGx
namespace Go.Proofs.YtfacfgecnpeceaaFmt
open Go.ChangeShapes Go.WideShapes Go.ChangeAt Go.RowKit

theorem FamI.low {ι : Type} {w : World} {base base' : Nat} {I : ι → Prop} {p : ι → Nat × Nat} {Q : Nat → Prop} {v : ι → Value} {l : ι → List FE} (h : FamI w base I p Q v l) (hb : base' ≤ base) : FamI w base' I p Q v l where
  c := h.c
  f := h.f
  fod := fun i hi => (h.fod i hi).low hb
  inj := h.inj
  dj := h.dj
  q := h.q
  lt := h.lt
  bs := fun b hq => Nat.le_trans hb (h.bs b hq)
  sep := h.sep
theorem FamI.more {ι : Type} {w : World} {base : Nat} {I : ι → Prop} {p : ι → Nat × Nat} {Q : Nat → Prop} {v : ι → Value} {l : ι → List FE} (h : FamI w base I p Q v l) (Q2 : Nat → Prop) (lt : ∀ b, Q2 b → b < w.heap.size) (bs : ∀ b, Q2 b → base ≤ b) (sep : ∀ i, I i → ∀ g, (v i).ownBlock = some g → ¬ Q2 g) :
    FamI w base I p (fun g => Q g ∨ Q2 g) v l where
  c := h.c
  f := h.f
  fod := h.fod
  inj := h.inj
  dj := h.dj
  q := fun i hi => Or.inl (h.q i hi)
  lt := fun b hb => hb.elim (h.lt b) (lt b)
  bs := fun b hb => hb.elim (h.bs b) (bs b)
  sep := fun i hi g hg hq => hq.elim (h.sep i hi g hg) (sep i hi g hg)

theorem OB.more {w : World} {base ob : Nat} {F : Gs} {Q : Nat → Prop} {v : Nat × Nat → Value} {l : Nat × Nat → List FE} (h : OB w base ob F Q v l) (G : Nat → Prop) (lt : ∀ g, G g → g < w.heap.size) (bs : ∀ g, G g → base ≤ g) (hs : ∀ x, gI F x → ∀ g, (v x).ownBlock = some g → ¬ G g) : OB w base ob F (fun y => Q y ∨ G y) v l :=
  { h with
    fam := h.fam.more G lt bs hs
    fq := Or.inl h.fq
    oq := Or.inl h.oq
    dq := fun i hi => Or.inl (h.dq i hi)
    yq := fun i hi hk => Or.inl (h.yq i hi hk) }

set_option maxRecDepth 100000 in
set_option maxHeartbeats 4000000 in
theorem zzFixObject (w : World) (base ob : Nat) (F : Gs) (Q : Nat → Prop) (v : Nat × Nat → Value) (l : Nat × Nat → List FE) (h : OB w base ob F Q v l) (hk : ∀ x, gI F x → Kinds (l x)) (hl : ∀ x, gI F x → clean (l x) = false → (l x).length ≤ 1048576) (hb : base ≤ w.heap.size) :
    Calls Tryf.prog 10 #[.pointer (some ⟨ob, 0, none⟩)] w fun e w' => e = .returned (.tuple #[]) ∧ ∃ Q' v' l', OB w' base ob F Q' v' l' ∧ (∀ x, gI F x → (gS F x ∧ gE F l = true ∧ Ens (l x) (l' x)) ∨ ((¬ gS F x ∨ gE F l = false) ∧ l' x = l x)) ∧ Below base w w' ∧ (∀ g, Q g → Q' g) ∧
      (∀ g, Q g → (∀ x, gI F x → (gp F ob x).1 ≠ g) → w'.heap[g]? = w.heap[g]?) ∧ ((gE F l = true → ∀ x, gI F x → gS F x → clean (l x) = true) → Kept [] w w') := by
  have H := Lib.hid h; clear h
  have HKD := Lib.hid hk; clear hk
  have HL := Lib.hid hl; clear hl
  go_enter Tryf.func10, Tryf.ntmps10
  go_wp2_with fail
  have ka : Kept [] w (w.alloc (.cells #[] 81)) := (Kept.refl [] w).alloc _
  have hpb : IsPass (w.alloc (.cells #[] 81)) w.heap.size := heap_alloc_new w _
  have hlt : ∀ x, gI F x → (gp F ob x).1 ≠ w.heap.size := fun x hx e => by have := H.out.fam.lt _ (H.out.fam.q x hx); omega
  have hw := (H.out.kept ka).more (fun g => g = w.heap.size) (fun g hg => by subst hg; simp) (fun g hg => by subst hg; exact hb) (fun x hx g hg e => by have := (World.ownsRow.lt (H.out.fam.fod x hx) g hg).2; omega)
  refine (fix_Object _ base ob F _ v l hw HKD.out HL.out (Nat.le_trans hb ka.size) w.heap.size hpb (Or.inr rfl) hlt _).mono ?_
  rintro e w1 ⟨rfl, hA⟩
  have HA := Lib.hid hA; clear hA
  go_wp2_with fail
  go_end0
  obtain ⟨v', l', h1, h2, h3, h4, h5⟩ := HA.out
  exact ⟨rfl, _, v', l', h1, h2, (ka.below hb (by simp)).trans h3, fun g hg => Or.inl hg, fun g hg hn => (h4 g (Or.inl hg) hn).trans (ka.block g (H.out.fam.lt g hg) (by simp)), fun hc => ka.trans (h5 hc)⟩
end Go.Proofs.YtfacfgecnpeceaaFmt
