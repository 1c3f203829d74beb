/- The contracts of FixTrailingCommas.ArrayComp and of its exported name, at an array comprehension of leaves. -/
import Derived.Test.YtinaihfbakkcmaaFmtACmp
import Derived.Test.YtinaihfbakkcmaaFmtFixC
namespace Go.Proofs.YtinaihfbakkcmaaFmt
open Go.ChangeShapes Go.WideShapes Go.ChangeAt Go.RowKit

/-- At nb lies an array comprehension whose body and source are null literals at bb and eb; its comma fodder, for fodder and close fodder are l1, l2, l9. -/
structure ACNode (w : World) (base nb bb eb : Nat) (tc : Bool) (v1 v2 v9 : Value) (l1 l2 l9 : List FE) : Prop where
  two : Two w base ⟨nb, 1, none⟩ ⟨nb, 19, none⟩ ⟨nb, 2, none⟩ tc v1 v2 l1 l2
  c0 : w.cell? ⟨nb, 0, none⟩ = some (.iface 27 (.pointer (some ⟨bb, 0, none⟩)))
  c3 : w.cell? ⟨nb, 3, none⟩ = some (.slice none 0 0)
  c4 : w.cell? ⟨nb, 4, none⟩ = some (.slice none 0 0)
  c5 : w.cell? ⟨nb, 5, none⟩ = some (.pointer none)
  c6 : w.cell? ⟨nb, 6, none⟩ = some (.iface 27 (.pointer (some ⟨eb, 0, none⟩)))
  c8 : w.cell? ⟨nb, 8, none⟩ = some (.slice none 0 0)
  c9 : w.cell? ⟨nb, 9, none⟩ = some v9
  h9 : Fod w base v9 l9
  o9 : ∀ g, v9.ownBlock = some g → g ≠ nb ∧ v1.ownBlock ≠ some g ∧ v2.ownBlock ≠ some g
  cb : w.cell? ⟨bb, 0, none⟩ = some (.slice none 0 0)
  fb : w.frozen? ⟨bb, 0, none⟩ = false
  ob : bb ≠ nb ∧ v1.ownBlock ≠ some bb ∧ v2.ownBlock ≠ some bb
  ce : w.cell? ⟨eb, 0, none⟩ = some (.slice none 0 0)
  fe : w.frozen? ⟨eb, 0, none⟩ = false
  oe : eb ≠ nb ∧ v1.ownBlock ≠ some eb ∧ v2.ownBlock ≠ some eb

theorem ACNode.kept {w w' : World} {base nb bb eb : Nat} {tc : Bool} {v1 v2 v9 : Value} {l1 l2 l9 : List FE} (h : ACNode w base nb bb eb tc v1 v2 v9 l1 l2 l9) (hk : Kept [] w w') : ACNode w' base nb bb eb tc v1 v2 v9 l1 l2 l9 where
  two := h.two.kept0 hk
  c0 := hk.cell h.c0 (by simp)
  c3 := hk.cell h.c3 (by simp)
  c4 := hk.cell h.c4 (by simp)
  c5 := hk.cell h.c5 (by simp)
  c6 := hk.cell h.c6 (by simp)
  c8 := hk.cell h.c8 (by simp)
  c9 := hk.cell h.c9 (by simp)
  h9 := h.h9.kept hk (by simp)
  o9 := h.o9
  cb := hk.cell h.cb (by simp)
  fb := (hk.frozen (World.block_lt_of_cell? w _ h.cb) (by simp)).trans h.fb
  ob := h.ob
  ce := hk.cell h.ce (by simp)
  fe := (hk.frozen (World.block_lt_of_cell? w _ h.ce) (by simp)).trans h.fe
  oe := h.oe

/-- What removeComma leaves of it. -/
theorem ACNode.left {w w' : World} {base nb bb eb : Nat} {tc b : Bool} {v1 v2 v9 : Value} {l1 l2 l9 l1' l2' : List FE} (h : ACNode w base nb bb eb tc v1 v2 v9 l1 l2 l9)
    (hl : Left3 w base ⟨nb, 1, none⟩ ⟨nb, 19, none⟩ ⟨nb, 2, none⟩ v1 v2 b l1' l2' w') :
    ∃ v1' v2', ACNode w' base nb bb eb b v1' v2' v9 l1' l2' l9 ∧ Kept (nb :: v1.ownBlock.toList) w w' ∧ (∀ g, v1'.ownBlock = some g → v1.ownBlock = some g ∨ w.heap.size ≤ g) ∧
      (∀ g, v2'.ownBlock = some g → v1.ownBlock = some g ∨ v2.ownBlock = some g ∨ w.heap.size ≤ g) := by
  obtain ⟨v1', v2', ht, hk, hr, ho1, ho2⟩ := hl
  dsimp only at hk
  have R : ∀ o v, o ≠ 1 → o ≠ 19 → o ≠ 2 → w.cell? ⟨nb, o, none⟩ = some v → w'.cell? ⟨nb, o, none⟩ = some v := fun o v n1 n2 n3 hc =>
    (hr.1 ⟨nb, o, none⟩ (Or.inl rfl) (fun e => n1 (congrArg Addr.off e)) (fun e => n2 (congrArg Addr.off e)) (fun e => n3 (congrArg Addr.off e))).trans hc
  have far : ∀ g, g < w.heap.size → g ≠ nb → v1.ownBlock ≠ some g → v2.ownBlock ≠ some g → g ≠ nb ∧ v1'.ownBlock ≠ some g ∧ v2'.ownBlock ≠ some g := fun g hg hn h1 h2 =>
    ⟨hn, fun e => by rcases ho1 g e with e | e; exact h1 e; omega, fun e => by rcases ho2 g e with e | e | e; exact h1 e; exact h2 e; omega⟩
  have notin : ∀ g, g ≠ nb → v1.ownBlock ≠ some g → g ∉ nb :: nb :: nb :: v1.ownBlock.toList := fun g hn h1 hm => by
    simp at hm
    rcases hm with e | e
    · exact hn e
    · exact h1 e
  have lb := World.block_lt_of_cell? w _ h.cb
  have le := World.block_lt_of_cell? w _ h.ce
  have l9 : ∀ g, v9.ownBlock = some g → g < w.heap.size := fun g hg => by
    obtain ⟨a, n, c, rfl⟩ := h.h9.isSlice
    obtain ⟨_, e | ⟨g', cap, cur, hv, _, hh, _⟩⟩ := h.h9
    · obtain ⟨e, _⟩ := e; cases e; cases hg
    · rw [hv] at hg
      simp [Value.ownBlock] at hg
      subst hg
      exact (Array.getElem?_eq_some_iff.1 hh).1
  refine ⟨v1', v2', ?_, hk.mono (fun k hk => Or.inl (by simp at hk ⊢; rcases hk with e | e <;> simp [e])), ho1, ho2⟩
  exact {
    two := ht
    c0 := R 0 _ (by omega) (by omega) (by omega) h.c0
    c3 := R 3 _ (by omega) (by omega) (by omega) h.c3
    c4 := R 4 _ (by omega) (by omega) (by omega) h.c4
    c5 := R 5 _ (by omega) (by omega) (by omega) h.c5
    c6 := R 6 _ (by omega) (by omega) (by omega) h.c6
    c8 := R 8 _ (by omega) (by omega) (by omega) h.c8
    c9 := R 9 _ (by omega) (by omega) (by omega) h.c9
    h9 := h.h9.kept hk (fun g hg => notin g (h.o9 g hg).1 (h.o9 g hg).2.1)
    o9 := fun g hg => far g (l9 g hg) (h.o9 g hg).1 (h.o9 g hg).2.1 (h.o9 g hg).2.2
    cb := hk.cell h.cb (notin bb h.ob.1 h.ob.2.1)
    fb := (hk.frozen lb (notin bb h.ob.1 h.ob.2.1)).trans h.fb
    ob := far bb lb h.ob.1 h.ob.2.1 h.ob.2.2
    ce := hk.cell h.ce (notin eb h.oe.1 h.oe.2.1)
    fe := (hk.frozen le (notin eb h.oe.1 h.oe.2.1)).trans h.fe
    oe := far eb le h.oe.1 h.oe.2.1 h.oe.2.2 }

theorem fod_nil (w : World) (base : Nat) : Fod w base (.slice none 0 0) [] := World.ownsRow_nil _ _ _ _

def ACLeft (w : World) (base nb bb eb : Nat) (tc : Bool) (v1 v9 : Value) (l1 l2 l9 : List FE) (w' : World) : Prop :=
  ∃ l1' l2' v1' v2', RmC tc l1 l2 l1' l2' ∧ ACNode w' base nb bb eb false v1' v2' v9 l1' l2' l9 ∧ Kept (nb :: v1.ownBlock.toList) w w' ∧ (∀ g, v1'.ownBlock = some g → v1.ownBlock = some g ∨ w.heap.size ≤ g)

set_option maxRecDepth 100000 in
set_option maxHeartbeats 4000000 in
theorem fix_ArrayComp (w : World) (base nb bb eb pb : Nat) (ctx : Value) (tc : Bool) (v1 v2 v9 : Value) (l1 l2 l9 : List FE) (h : ACNode w base nb bb eb tc v1 v2 v9 l1 l2 l9) (hpb : IsPass w pb) (hpn : pb ≠ nb) (hp1 : v1.ownBlock ≠ some pb)
    (hlen : l1.length + l2.length ≤ 1048570) (hbs : base ≤ w.heap.size) (hcl : ∀ x, l2[0]? = some x → x.k = 0 → x.cl = 0) :
    Calls Tryf.prog 32 #[.pointer (some ⟨pb, 0, none⟩), .iface 78 (.pointer (some ⟨pb, 0, none⟩)), .pointer (some ⟨nb, 0, none⟩), ctx] w fun e w' => e = .returned (.tuple #[]) ∧
      ACLeft w base nb bb eb tc v1 v9 l1 l2 l9 w' := by
  have H := Lib.hid h; clear h
  have HPB := Lib.hid hpb; clear hpb
  have HCL := Lib.hid hcl; clear hcl
  go_enter Tryf.func32, Tryf.ntmps32
  go_wp2_with fail
  go_still_tail 11, (by kernel_rfl)
  go_wp2_with fail
  have hd := H.out.kept (Kept.refl [] w).drew
  refine (removeComma_any _ base _ nb 1 nb 19 nb 2 tc v1 v2 l1 l2 hd.two hlen (by simpa using hbs) HCL.out).mono ?_
  rintro e w1 ⟨rfl, l1', l2', hrm, hl3⟩
  obtain ⟨v1', v2', hn, hk, ho1, ho2⟩ := hd.left hl3
  have hpb1 : IsPass w1 pb := (HPB.out.kept (Kept.refl [] w).drew (by simp)).kept hk (by simp [hpn, hp1])
  have hpart := part_base w1 pb hpb1
  have HRM := Lib.hid hrm; clear hrm
  have HN := Lib.hid hn; clear hn
  have HK := Lib.hid hk; clear hk
  have HO1 := Lib.hid ho1; clear ho1
  clear ho2 hl3 hd
  go_wp2_with fail
  have n := HN.out
  refine (base_ArrayComp _ base _ pb nb bb eb hpb1 _ _ v1' v2' _ _ v9 _ [] l1' l2' [] [] l9 [] none 0 (fod_nil _ _) n.two.l n.two.c (fod_nil _ _) (fod_nil _ _) n.h9 (fod_nil _ _)
    n.c0 n.two.cp n.two.cq n.c3 n.c4 n.c5 n.c6 n.c8 n.c9 n.cb n.fb n.ce n.fe).mono ?_
  rintro e w2 ⟨rfl, k2⟩
  clear n
  have K2 := Lib.hid k2; clear k2
  go_wp2_with fail
  go_end0
  refine ⟨rfl, l1', l2', v1', v2', HRM.out, HN.out.kept K2.out, ?_, HO1.out⟩
  exact ((Kept.refl [] w).drew.mono (by simp)).then (HK.out.trans (K2.out.mono (by simp))) (fun x hx => Or.inl hx)

set_option maxRecDepth 100000 in
set_option maxHeartbeats 4000000 in
theorem zzArrayComp (w : World) (base nb bb eb : Nat) (tc : Bool) (v1 v2 v9 : Value) (l1 l2 l9 : List FE) (h : ACNode w base nb bb eb tc v1 v2 v9 l1 l2 l9)
    (hlen : l1.length + l2.length ≤ 1048570) (hbs : base ≤ w.heap.size) (hcl : ∀ x, l2[0]? = some x → x.k = 0 → x.cl = 0) :
    Calls Tryf.prog 24 #[.pointer (some ⟨nb, 0, none⟩)] w fun e w' => e = .returned (.tuple #[]) ∧ ACLeft w base nb bb eb tc v1 v9 l1 l2 l9 w' := by
  have H := Lib.hid h; clear h
  have HCL := Lib.hid hcl; clear hcl
  go_enter Tryf.func24, Tryf.ntmps24
  go_wp2_with fail
  have ka : Kept [] w (w.alloc (.cells #[] 82)) := (Kept.refl [] w).alloc _
  have hpb : IsPass (w.alloc (.cells #[] 82)) w.heap.size := heap_alloc_new w _
  have hn := World.block_lt_of_cell? w _ H.out.c0
  have hv : v1.ownBlock ≠ some w.heap.size := by
    intro e
    have h1 := H.out.two.l
    obtain ⟨_, e1 | ⟨g', cap, cur, hv, _, hh, _⟩⟩ := h1
    · rw [e1.1] at e; cases e
    · rw [hv] at e
      simp [Value.ownBlock] at e
      subst e
      have := (Array.getElem?_eq_some_iff.1 hh).1
      omega
  refine (fix_ArrayComp _ base nb bb eb w.heap.size _ tc v1 v2 v9 l1 l2 l9 (H.out.kept ka) hpb (by dsimp only at hn; omega) hv hlen (Nat.le_trans hbs ka.size) HCL.out).mono ?_
  rintro e w1 ⟨rfl, l1', l2', v1', v2', h1, h2, h3, h4⟩
  go_wp2_with fail
  go_end0
  refine ⟨rfl, l1', l2', v1', v2', h1, h2, (ka.mono (by simp)).then h3 (fun x hx => Or.inl hx), fun g hg => ?_⟩
  rcases h4 g hg with e | e
  · exact Or.inl e
  · exact Or.inr (Nat.le_trans ka.size e)
end Go.Proofs.YtinaihfbakkcmaaFmt
