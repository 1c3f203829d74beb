/- The contracts of FixTrailingCommas.Array and of its exported name, at an array of null literals. -/
import Derived.Test.YtnfhhmadkiogbaaFmtBArr
import Derived.Test.YtnfhhmadkiogbaaFmtFixC
import Derived.IntWalk
namespace Go.Proofs.YtnfhhmadkiogbaaFmt
open Go.ChangeShapes Go.WideShapes Go.ChangeAt Go.RowKit

/-- At nb lies an array of m + 1 null literals, its elements at eb; the last comma fodder is ll, the close fodder lc, the other comma fodders read as C says. -/
structure ArrN (w : World) (base nb eb m : Nat) (tc : Bool) (vl vc : Value) (ll lc : List FE) (C : Nat → List FE) : Prop where
  two : Two w base ⟨eb, m * 2 + 1, none⟩ ⟨nb, 11, none⟩ ⟨nb, 1, none⟩ tc vl vc ll lc
  c0 : w.cell? ⟨nb, 0, none⟩ = some (.slice (some ⟨eb, 0, none⟩) (m + 1) (m + 1))
  ne : eb ≠ nb
  el : ∀ i, i ≤ m → ∃ xb, w.cell? ⟨eb, i * 2, none⟩ = some (.iface 27 (.pointer (some ⟨xb, 0, none⟩))) ∧ w.cell? ⟨xb, 0, none⟩ = some (.slice none 0 0) ∧ w.frozen? ⟨xb, 0, none⟩ = false ∧
    xb ≠ nb ∧ xb ≠ eb ∧ vl.ownBlock ≠ some xb ∧ vc.ownBlock ≠ some xb
  cm : ∀ i, i < m → ∃ v, w.cell? ⟨eb, i * 2 + 1, none⟩ = some v ∧ Fod w base v (C i) ∧ ∀ g, v.ownBlock = some g → g ≠ nb ∧ g ≠ eb ∧ vl.ownBlock ≠ some g ∧ vc.ownBlock ≠ some g

theorem ArrN.kept {w w' : World} {base nb eb m : Nat} {tc : Bool} {vl vc : Value} {ll lc : List FE} {C : Nat → List FE} {S : List Nat} (h : ArrN w base nb eb m tc vl vc ll lc C) (hk : Kept S w w') (hS : ∀ k ∈ S, w.heap.size ≤ k) : ArrN w' base nb eb m tc vl vc ll lc C := by
  have q : Kept [] w w' := hk.mono (fun k hk => Or.inr (hS k hk))
  exact {
    two := h.two.kept0 q
    c0 := q.cell h.c0 (by simp)
    ne := h.ne
    el := fun i hi => by
      obtain ⟨xb, e1, e2, e3, e4⟩ := h.el i hi
      exact ⟨xb, q.cell e1 (by simp), q.cell e2 (by simp), (q.frozen (World.block_lt_of_cell? w _ e2) (by simp)).trans e3, e4⟩
    cm := fun i hi => by
      obtain ⟨v, e1, e2, e3⟩ := h.cm i hi
      exact ⟨v, q.cell e1 (by simp), e2.kept q (by simp), e3⟩ }

theorem ArrN.leaves {w : World} {base nb eb m : Nat} {tc : Bool} {vl vc : Value} {ll lc : List FE} {C : Nat → List FE} (h : ArrN w base nb eb m tc vl vc ll lc C) : Leaves w base eb (m + 1) := by
  intro i hi
  obtain ⟨xb, e1, e2, e3, -⟩ := h.el i (by omega)
  by_cases hm : i < m
  · obtain ⟨v, d1, d2, -⟩ := h.cm i hm
    exact ⟨xb, _, _, v, _, e1, d1, d2, e2, e3, fod_nil _ _⟩
  · obtain rfl : i = m := by omega
    exact ⟨xb, _, _, vl, ll, e1, h.two.cp, h.two.l, e2, e3, fod_nil _ _⟩

/-- What fixComma leaves of it. -/
theorem ArrN.left {w w' : World} {base nb eb m : Nat} {tc b : Bool} {vl vc : Value} {ll lc ll' lc' : List FE} {C : Nat → List FE} (h : ArrN w base nb eb m tc vl vc ll lc C)
    (hl : Left3 w base ⟨eb, m * 2 + 1, none⟩ ⟨nb, 11, none⟩ ⟨nb, 1, none⟩ vl vc b ll' lc' w') :
    ∃ vl' vc', ArrN w' base nb eb m b vl' vc' ll' lc' C ∧ Kept (eb :: nb :: vl.ownBlock.toList) w w' ∧ (∀ g, vl'.ownBlock = some g → vl.ownBlock = some g ∨ w.heap.size ≤ g) ∧
      (∀ g, vc'.ownBlock = some g → vl.ownBlock = some g ∨ vc.ownBlock = some g ∨ w.heap.size ≤ g) := by
  obtain ⟨vl', vc', ht, hk, hr, ho1, ho2⟩ := hl
  dsimp only at hk
  have ne := h.ne
  have Rn : ∀ o v, o ≠ 11 → o ≠ 1 → w.cell? ⟨nb, o, none⟩ = some v → w'.cell? ⟨nb, o, none⟩ = some v := fun o v n1 n2 hc =>
    (hr.1 ⟨nb, o, none⟩ (Or.inr (Or.inl rfl)) (fun e => ne (congrArg Addr.block e).symm) (fun e => n1 (congrArg Addr.off e)) (fun e => n2 (congrArg Addr.off e))).trans hc
  have Re : ∀ o v, o ≠ m * 2 + 1 → w.cell? ⟨eb, o, none⟩ = some v → w'.cell? ⟨eb, o, none⟩ = some v := fun o v n1 hc =>
    (hr.1 ⟨eb, o, none⟩ (Or.inl rfl) (fun e => n1 (congrArg Addr.off e)) (fun e => ne (congrArg Addr.block e)) (fun e => ne (congrArg Addr.block e))).trans hc
  have far : ∀ g, g < w.heap.size → vl.ownBlock ≠ some g → vc.ownBlock ≠ some g → vl'.ownBlock ≠ some g ∧ vc'.ownBlock ≠ some g := fun g hg h1 h2 =>
    ⟨fun e => by rcases ho1 g e with e | e; exact h1 e; omega, fun e => by rcases ho2 g e with e | e | e; exact h1 e; exact h2 e; omega⟩
  have notin : ∀ g, g ≠ nb → g ≠ eb → vl.ownBlock ≠ some g → g ∉ eb :: nb :: nb :: vl.ownBlock.toList := fun g hn he h1 hm => by
    simp at hm
    rcases hm with e | e | e
    · exact he e
    · exact hn e
    · exact h1 e
  refine ⟨vl', vc', ?_, hk.mono (fun k hk => Or.inl (by simp at hk ⊢; rcases hk with e | e | e <;> simp [e])), ho1, ho2⟩
  exact {
    two := ht
    c0 := Rn 0 _ (by omega) (by omega) h.c0
    ne := ne
    el := fun i hi => by
      obtain ⟨xb, e1, e2, e3, e4, e5, e6, e7⟩ := h.el i hi
      have lx := World.block_lt_of_cell? w _ e2
      have f := far xb lx e6 e7
      exact ⟨xb, Re _ _ (by omega) e1, hk.cell e2 (notin xb e4 e5 e6), (hk.frozen lx (notin xb e4 e5 e6)).trans e3, e4, e5, f.1, f.2⟩
    cm := fun i hi => by
      obtain ⟨v, e1, e2, e3⟩ := h.cm i hi
      refine ⟨v, Re _ _ (by omega) e1, e2.kept hk (fun g hg => notin g (e3 g hg).1 (e3 g hg).2.1 (e3 g hg).2.2.1), fun g hg => ?_⟩
      have f := far g (World.ownsRow.lt e2 g hg).2 (e3 g hg).2.2.1 (e3 g hg).2.2.2
      exact ⟨(e3 g hg).1, (e3 g hg).2.1, f.1, f.2⟩ }

def ArrLeft (w : World) (base nb eb m : Nat) (tc : Bool) (vl vc : Value) (ll lc : List FE) (C : Nat → List FE) (w' : World) : Prop :=
  ∃ ll' lc' vl' vc', FxC tc ll lc ll' lc' ∧ ArrN w' base nb eb m (anyNL lc || anyNL ll) vl' vc' ll' lc' C ∧ Kept (eb :: nb :: vl.ownBlock.toList) w w' ∧ (∀ g, vl'.ownBlock = some g → vl.ownBlock = some g ∨ w.heap.size ≤ g) ∧
    (∀ g, vc'.ownBlock = some g → vl.ownBlock = some g ∨ vc.ownBlock = some g ∨ w.heap.size ≤ g)

theorem ArrLeft.below {w0 w w' : World} {base nb eb m : Nat} {tc : Bool} {vl vc : Value} {ll lc : List FE} {C : Nat → List FE} (hk : Kept [] w0 w) (h : ArrLeft w base nb eb m tc vl vc ll lc C w') : ArrLeft w0 base nb eb m tc vl vc ll lc C w' := by
  obtain ⟨ll', lc', vl', vc', h1, h2, h3, h4, h5⟩ := h
  refine ⟨ll', lc', vl', vc', h1, h2, (hk.mono (by simp)).then h3 (fun x hx => Or.inl hx), fun g hg => ?_, fun g hg => ?_⟩
  · rcases h4 g hg with e | e
    · exact Or.inl e
    · exact Or.inr (Nat.le_trans hk.size e)
  · rcases h5 g hg with e | e | e
    · exact Or.inl e
    · exact Or.inr (Or.inl e)
    · exact Or.inr (Or.inr (Nat.le_trans hk.size e))

theorem ArrLeft.after {w w1 w' : World} {base nb eb m : Nat} {tc : Bool} {vl vc : Value} {ll lc : List FE} {C : Nat → List FE} (h : ArrLeft w base nb eb m tc vl vc ll lc C w1) (hk : Kept [] w1 w') : ArrLeft w base nb eb m tc vl vc ll lc C w' := by
  obtain ⟨ll', lc', vl', vc', h1, h2, h3, h4, h5⟩ := h
  exact ⟨ll', lc', vl', vc', h1, h2.kept hk (by simp), h3.trans (hk.mono (by simp)), h4, h5⟩

set_option maxRecDepth 100000 in
set_option maxHeartbeats 4000000 in
theorem fix_Array (w : World) (base nb eb m pb : Nat) (ctx : Value) (tc : Bool) (vl vc : Value) (ll lc : List FE) (C : Nat → List FE) (h : ArrN w base nb eb m tc vl vc ll lc C) (hm : m ≤ 1048576) (hpb : IsPass w pb) (hpn : pb ≠ nb) (hpe : pb ≠ eb) (hp1 : vl.ownBlock ≠ some pb)
    (hlen : ll.length + lc.length ≤ 1048570) (hbs : base ≤ w.heap.size) (hcl : ∀ x, lc[0]? = some x → x.k = 0 → x.cl = 0) :
    Calls Tryf.prog 12 #[.pointer (some ⟨pb, 0, none⟩), .iface 61 (.pointer (some ⟨pb, 0, none⟩)), .pointer (some ⟨nb, 0, none⟩), ctx] w fun e w' => e = .returned (.tuple #[]) ∧
      ArrLeft w base nb eb m tc vl vc ll lc C w' := by
  have c0 := h.c0
  obtain ⟨n, hn⟩ : ∃ n, m + 1 = n := ⟨_, rfl⟩
  have hn1 : n ≤ m + 1 := by omega
  have hn2 : m + 1 ≤ n := by omega
  have hw : IntKind.i64.wrap ((n : Int) - 1) = (m : Int) := by rw [IntWalk.i64_in _ (by omega)]; omega
  have i1 : (0 : Int) ≤ (m : Int) := by omega
  have i2 : (m : Int) < (n : Int) := by omega
  rw [hn] at c0
  have HN := Lib.hid hn; clear hn
  have H := Lib.hid h; clear h
  have HPB := Lib.hid hpb; clear hpb
  have HCL := Lib.hid hcl; clear hcl
  have hz : ((n : Int) == 0) = false := by simp; omega
  go_enter Tryf.func12, Tryf.ntmps12
  go_wp2_with fail
  go_still_tail 19, (by kernel_rfl)
  go_wp2_with fail
  have hd := H.out.kept (Kept.refl [] w).drew (by simp)
  refine (fixComma_any _ base _ eb (m * 2 + 1) nb 11 nb 1 tc vl vc ll lc hd.two hlen (by simpa using hbs) HCL.out).mono ?_
  rintro e w1 ⟨rfl, ll', lc', hfx, hl3⟩
  obtain ⟨vl', vc', hn, hk, ho1, ho2⟩ := hd.left hl3
  have hpb1 : IsPass w1 pb := (HPB.out.kept (Kept.refl [] w).drew (by simp)).kept hk (by simp [hpn, hp1, hpe])
  have hpart := part_base w1 pb hpb1
  have hAL : ArrLeft w base nb eb m tc vl vc ll lc C w1 := ArrLeft.below (Kept.refl [] w).drew ⟨ll', lc', vl', vc', hfx, hn, hk, ho1, ho2⟩
  have HAL := Lib.hid hAL; clear hAL
  have HNN := Lib.hid hn; clear hn
  clear ho1 ho2 hl3 hd hk hfx hw hz
  go_wp2_with fail
  have hc0 := HNN.out.c0
  refine (base_Array _ base _ pb nb eb (m + 1) (m + 1) hpb1 _ vc' lc' HNN.out.leaves (Nat.le_refl _) (by omega) hc0 HNN.out.two.cq HNN.out.two.c).mono ?_
  rintro e w2 ⟨rfl, k2⟩
  have K2 := Lib.hid k2; clear k2 hc0
  go_wp2_with fail
  go_end0
  exact ⟨rfl, HAL.out.after K2.out⟩

set_option maxRecDepth 100000 in
set_option maxHeartbeats 4000000 in
theorem zzArray (w : World) (base nb eb m : Nat) (tc : Bool) (vl vc : Value) (ll lc : List FE) (C : Nat → List FE) (h : ArrN w base nb eb m tc vl vc ll lc C) (hm : m ≤ 1048576)
    (hlen : ll.length + lc.length ≤ 1048570) (hbs : base ≤ w.heap.size) (hcl : ∀ x, lc[0]? = some x → x.k = 0 → x.cl = 0) :
    Calls Tryf.prog 9 #[.pointer (some ⟨nb, 0, none⟩)] w fun e w' => e = .returned (.tuple #[]) ∧ ArrLeft w base nb eb m tc vl vc ll lc C w' := by
  have H := Lib.hid h; clear h
  have HCL := Lib.hid hcl; clear hcl
  go_enter Tryf.func9, Tryf.ntmps9
  go_wp2_with fail
  have ka : Kept [] w (w.alloc (.cells #[] 65)) := (Kept.refl [] w).alloc _
  have hpb : IsPass (w.alloc (.cells #[] 65)) w.heap.size := heap_alloc_new w _
  have hn := World.block_lt_of_cell? w _ H.out.c0
  have he := World.block_lt_of_cell? w _ H.out.two.cp
  have hv : vl.ownBlock ≠ some w.heap.size := fun e => by have := (World.ownsRow.lt H.out.two.l _ e).2; omega
  refine (fix_Array _ base nb eb m w.heap.size _ tc vl vc ll lc C (H.out.kept ka (by simp)) hm hpb (by dsimp only at hn; omega) (by dsimp only at he; omega) hv hlen (Nat.le_trans hbs ka.size) HCL.out).mono ?_
  rintro e w1 ⟨rfl, hA⟩
  have HA := Lib.hid hA; clear hA
  go_wp2_with fail
  go_end0
  exact ⟨rfl, HA.out.below ka⟩
end Go.Proofs.YtnfhhmadkiogbaaFmt
