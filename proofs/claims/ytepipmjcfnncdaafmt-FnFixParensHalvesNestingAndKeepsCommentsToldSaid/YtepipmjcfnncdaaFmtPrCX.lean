/- Two pairs of parentheses built in memory; the contracts of n008_102's exported names. -/
import Derived.Test.YtepipmjcfnncdaaFmtPrBX
import Derived.Test.YtepipmjcfnncdaaFmtInt
import Derived.Lib.Builder
namespace Go.Proofs.YtepipmjcfnncdaaFmt
open Go.ChangeShapes Go.WideShapes Go.ChangeAt Go.RowKit

abbrev varOb (t : ByteArray) (u : Value) : Obj := .cells #[.string t, u, .pointer none, .slice none 0 0, .pointer none, .string ⟨#[]⟩, .int .i64 0, .int .i64 0, .int .i64 0, .int .i64 0] 66
abbrev parOb (i vc vo : Value) : Obj := .cells #[i, vc, vo, .pointer none, .slice none 0 0, .pointer none, .string ⟨#[]⟩, .int .i64 0, .int .i64 0, .int .i64 0, .int .i64 0] 129

theorem parOb_no {w : World} {q : Nat} {i vc vo : Value} (h : w.heap[q]? = some (parOb i vc vo)) {t : ByteArray} : w.heap[q]? ≠ some (.cells #[.string t] 9 (0, 0)) := by
  rw [h]; simp

/-- Two pairs, as built. -/
structure Two (w W : World) (id : ByteArray) (x q1 q2 : Nat) (ve va vc vb vd : Value) (le la lc lb ld : List FE) (te ta tc tb td : List ByteArray) : Prop where
  k : Kept [] w W
  nst : Nst W w.heap.size x [⟨q2, vb, vd, lb, ld⟩, ⟨q1, va, vc, la, lc⟩]
  nd : (blocks [⟨q2, vb, vd, lb, ld⟩, ⟨q1, va, vc, la, lc⟩]).Nodup
  var : VarAt W w.heap.size x ve le
  cid : W.cell? ⟨x, 0, none⟩ = some (.string id)
  xb : x ∉ blocks [⟨q2, vb, vd, lb, ld⟩, ⟨q1, va, vc, la, lc⟩]
  vx : ∀ g, ve.ownBlock = some g → g ∉ blocks [⟨q2, vb, vd, lb, ld⟩, ⟨q1, va, vc, la, lc⟩]
  ne : Notes W w.heap.size le te
  na : Notes W w.heap.size la ta
  nc : Notes W w.heap.size lc tc
  nb : Notes W w.heap.size lb tb
  ndd : Notes W w.heap.size ld td
  low : ∀ b ∈ blocks [⟨q2, vb, vd, lb, ld⟩, ⟨q1, va, vc, la, lc⟩], w.heap.size ≤ b
  no : ∀ g t, W.heap[g]? = some (.cells #[.string t] 9 (0, 0)) → g ∉ blocks [⟨q2, vb, vd, lb, ld⟩, ⟨q1, va, vc, la, lc⟩]

theorem two_new (w w1 w2 w3 w4 w5 : World) (id : ByteArray) (ve va vc vb vd : Value) (le la lc lb ld : List FE) (te ta tc tb td : List ByteArray)
    (he : Fod w1 w.heap.size ve le) (ne : Notes w1 w.heap.size le te) (k1 : Kept [] w w1)
    (ha : Fod w2 (w1.alloc (varOb id ve)).heap.size va la) (na : Notes w2 (w1.alloc (varOb id ve)).heap.size la ta) (k2 : Kept [] (w1.alloc (varOb id ve)) w2)
    (hc : Fod w3 w2.heap.size vc lc) (nc : Notes w3 w2.heap.size lc tc) (k3 : Kept [] w2 w3)
    (hb : Fod w4 (w3.alloc (parOb (varI w1.heap.size) vc va)).heap.size vb lb) (nb : Notes w4 (w3.alloc (parOb (varI w1.heap.size) vc va)).heap.size lb tb) (k4 : Kept [] (w3.alloc (parOb (varI w1.heap.size) vc va)) w4)
    (hd : Fod w5 w4.heap.size vd ld) (nd : Notes w5 w4.heap.size ld td) (k5 : Kept [] w4 w5) :
    Two w (w5.alloc (parOb (parI w3.heap.size) vd vb)) id w1.heap.size w3.heap.size w5.heap.size ve va vc vb vd le la lc lb ld te ta tc tb td := by
  have z1 := k1.size
  have z2 := k2.size
  have z3 := k3.size
  have z4 := k4.size
  have z5 := k5.size
  have o1 := World.ownsRow.lt he
  have o2 := World.ownsRow.lt ha
  have o3 := World.ownsRow.lt hc
  have o4 := World.ownsRow.lt hb
  have o5 := World.ownsRow.lt hd
  simp only [World.size_alloc] at z2 z4 o2 o4
  have a5 : Kept [] w5 (w5.alloc (parOb (parI w3.heap.size) vd vb)) := (Kept.refl [] w5).alloc _
  have a4 := k5.trans a5
  have a3' := k4.trans a4
  have a3 : Kept [] w3 _ := ((Kept.refl [] w3).alloc _).trans a3'
  have a2 := k3.trans a3
  have a1' := k2.trans a2
  have a1 : Kept [] w1 _ := ((Kept.refl [] w1).alloc _).trans a1'
  have a0 := k1.trans a1
  have bx := a1'.heap (heap_alloc_new w1 (varOb id ve)) (by simp)
  have b1 := a3'.heap (heap_alloc_new w3 (parOb (varI w1.heap.size) vc va)) (by simp)
  have b2 := heap_alloc_new w5 (parOb (parI w3.heap.size) vd vb)
  obtain ⟨W, hW⟩ : ∃ W, w5.alloc (parOb (parI w3.heap.size) vd vb) = W := ⟨_, rfl⟩
  rw [hW] at a0 a1 a2 a3 a4 a5 bx b1 b2 ⊢
  have fe := (he.kept a1 (by simp))
  have fa := (ha.kept a2 (by simp)).low (b' := w.heap.size) (by simp only [World.size_alloc]; omega)
  have fc := (hc.kept a3 (by simp)).low (b' := w.heap.size) (by omega)
  have fb := (hb.kept a4 (by simp)).low (b' := w.heap.size) (by simp only [World.size_alloc]; omega)
  have fd := (hd.kept a5 (by simp)).low (b' := w.heap.size) (by omega)
  have mem : ∀ g ∈ blocks [⟨w5.heap.size, vb, vd, lb, ld⟩, ⟨w3.heap.size, va, vc, la, lc⟩], g = w5.heap.size ∨ vb.ownBlock = some g ∨ vd.ownBlock = some g ∨ g = w3.heap.size ∨ va.ownBlock = some g ∨ vc.ownBlock = some g := by
    intro g hg
    simp [blocks, Lv.blocks] at hg
    rcases hg with h | h | h | h | h | h
    · exact Or.inl h
    · exact Or.inr (Or.inl h)
    · exact Or.inr (Or.inr (Or.inl h))
    · exact Or.inr (Or.inr (Or.inr (Or.inl h)))
    · exact Or.inr (Or.inr (Or.inr (Or.inr (Or.inl h))))
    · exact Or.inr (Or.inr (Or.inr (Or.inr (Or.inr h))))
  exact {
    k := a0
    nst := ⟨cell_of_block b2 0, cell_of_block b2 1, cell_of_block b2 2, frozen_of_block b2, fb, fd, cell_of_block b1 0, cell_of_block b1 1, cell_of_block b1 2, frozen_of_block b1, fa, fc, trivial⟩
    nd := by
      have own : ∀ (v : Value), v.ownBlock.toList.Nodup := fun v => by cases v.ownBlock <;> simp
      simp only [blocks, Lv.blocks, List.append_nil]
      rw [List.nodup_append]
      refine ⟨?_, ?_, ?_⟩
      · rw [List.nodup_cons, List.nodup_append]
        refine ⟨fun hm => ?_, own _, own _, fun a ha' b hb' e => ?_⟩
        · simp at hm
          rcases hm with h | h
          · have := o4 _ h; omega
          · have := o5 _ h; omega
        · simp at ha' hb'
          subst e
          have := o4 _ ha'; have := o5 _ hb'; omega
      · rw [List.nodup_cons, List.nodup_append]
        refine ⟨fun hm => ?_, own _, own _, fun a ha' b hb' e => ?_⟩
        · simp at hm
          rcases hm with h | h
          · have := o2 _ h; omega
          · have := o3 _ h; omega
        · simp at ha' hb'
          subst e
          have := o2 _ ha'; have := o3 _ hb'; omega
      · intro a ha' b hb' e
        subst e
        simp at ha' hb'
        rcases ha' with h | h | h
        · rcases hb' with h' | h' | h'
          · omega
          · have := o2 _ h'; omega
          · have := o3 _ h'; omega
        · have := o4 _ h
          rcases hb' with h' | h' | h'
          · omega
          · have := o2 _ h'; omega
          · have := o3 _ h'; omega
        · have := o5 _ h
          rcases hb' with h' | h' | h'
          · omega
          · have := o2 _ h'; omega
          · have := o3 _ h'; omega
    var := ⟨cell_of_block bx 1, frozen_of_block bx 1, fe⟩
    cid := cell_of_block bx 0
    xb := fun hm => by
      rcases mem _ hm with h | h | h | h | h | h
      · omega
      · have := o4 _ h; omega
      · have := o5 _ h; omega
      · omega
      · have := o2 _ h; omega
      · have := o3 _ h; omega
    vx := fun g hg hm => by
      have := o1 g hg
      rcases mem _ hm with h | h | h | h | h | h
      · omega
      · have := o4 _ h; omega
      · have := o5 _ h; omega
      · omega
      · have := o2 _ h; omega
      · have := o3 _ h; omega
    ne := ne.kept a1 (by simp)
    na := (na.kept a2 (by simp)).low (by simp only [World.size_alloc]; omega)
    nc := (nc.kept a3 (by simp)).low (by omega)
    nb := (nb.kept a4 (by simp)).low (by simp only [World.size_alloc]; omega)
    ndd := (nd.kept a5 (by simp)).low (by omega)
    low := fun g hm => by
      rcases mem _ hm with h | h | h | h | h | h
      · omega
      · have := o4 _ h; omega
      · have := o5 _ h; omega
      · omega
      · have := o2 _ h; omega
      · have := o3 _ h; omega
    no := fun g t hg hm => by
      rcases mem _ hm with h | h | h | h | h | h
      · subst h; exact parOb_no b2 hg
      · exact fb.noNote h hg
      · exact fd.noNote h hg
      · subst h; exact parOb_no b1 hg
      · exact fa.noNote h hg
      · exact fc.noNote h hg }

set_option maxRecDepth 100000 in
theorem zzParVar (w : World) (x : Nat) (a1 : Option Addr) (n1 c1 : Nat) (a2 : Option Addr) (n2 c2 : Nat) :
    Calls Tryf.prog 43 #[.pointer (some ⟨x, 0, none⟩), .slice a1 n1 c1, .slice a2 n2 c2] w fun e w' => e = .returned (.pointer (some ⟨w.heap.size, 0, none⟩)) ∧ w.alloc (parOb (varI x) (.slice a2 n2 c2) (.slice a1 n1 c1)) = w' := by
  go_enter Tryf.func43, Tryf.ntmps43
  go_wp2_with fail
  go_ret
  exact ⟨rfl, rfl⟩
set_option maxRecDepth 100000 in
theorem zzParPar (w : World) (x : Nat) (a1 : Option Addr) (n1 c1 : Nat) (a2 : Option Addr) (n2 c2 : Nat) :
    Calls Tryf.prog 44 #[.pointer (some ⟨x, 0, none⟩), .slice a1 n1 c1, .slice a2 n2 c2] w fun e w' => e = .returned (.pointer (some ⟨w.heap.size, 0, none⟩)) ∧ w.alloc (parOb (parI x) (.slice a2 n2 c2) (.slice a1 n1 c1)) = w' := by
  go_enter Tryf.func44, Tryf.ntmps44
  go_wp2_with fail
  go_ret
  exact ⟨rfl, rfl⟩
set_option maxRecDepth 100000 in
theorem zzInnerVar (w : World) (q x : Nat) (c0 : w.cell? ⟨q, 0, none⟩ = some (varI x)) :
    Calls Tryf.prog 46 #[.pointer (some ⟨q, 0, none⟩)] w fun e w' => e = .returned (.tuple #[.pointer (some ⟨x, 0, none⟩), .bool true]) ∧ w = w' := by
  have ta := fun w : World => ta_yes_Var (.pointer (some ⟨x, 0, none⟩)) 31 w
  go_enter Tryf.func46, Tryf.ntmps46
  go_wp2_with fail
  go_ret2
  exact ⟨rfl, rfl⟩
set_option maxRecDepth 100000 in
theorem zzInnerPar (w : World) (q x : Nat) (c0 : w.cell? ⟨q, 0, none⟩ = some (parI x)) :
    Calls Tryf.prog 66 #[.pointer (some ⟨q, 0, none⟩)] w fun e w' => e = .returned (.tuple #[.pointer (some ⟨x, 0, none⟩), .bool true]) ∧ w = w' := by
  have ta := fun w : World => ta_yes_Parens (.pointer (some ⟨x, 0, none⟩)) 31 w
  go_enter Tryf.func66, Tryf.ntmps66
  go_wp2_with fail
  go_ret2
  exact ⟨rfl, rfl⟩
theorem neqVar (w : World) (x : Nat) : (binOp .neq 58 (.pointer (some ⟨x, 0, none⟩)) (.pointer (some ⟨x, 0, none⟩))).run Tryf.prog w = .ok (.bool false) w := by
  obtain ⟨j, hj⟩ : ∃ j, Tryf.prog.info? 66 = some j := Option.isSome_iff_exists.1 (by kernel_rfl)
  exact Lib.run_neq_ptr_same w ⟨x, 0, none⟩ (by kernel_rfl) hj

set_option maxRecDepth 100000 in
set_option maxHeartbeats 1000000 in
theorem zzFixPar (w : World) (L : Lv) (r : List Lv) (base x : Nat) (ve : Value) (le : List FE) (h : Nst w base x (L :: r)) (hs : Shorts (L :: r)) (hd : (blocks (L :: r)).Nodup) (hv : VarAt w base x ve le) (hx : x ∉ blocks (L :: r)) (ho : ∀ g, ve.ownBlock = some g → g ∉ blocks (L :: r)) (hb : base ≤ w.heap.size) :
    Calls Tryf.prog 45 #[.pointer (some ⟨L.q, 0, none⟩)] w fun e w' => e = .returned (.tuple #[]) ∧ Halved w base x (L :: r) w' := by
  have H := Lib.hid h; clear h
  have HV := Lib.hid hv; clear hv
  have HS := Lib.hid hs; clear hs
  have HD := Lib.hid hd; clear hd
  have HX := Lib.hid hx; clear hx
  have HO := Lib.hid ho; clear ho
  go_enter Tryf.func45, Tryf.ntmps45
  go_wp2_with fail
  have ka : Kept [] w (w.alloc (.cells #[] 184)) := (Kept.refl [] w).alloc _
  have hpb : IsPass (w.alloc (.cells #[] 184)) w.heap.size := heap_alloc_new w _
  have hpn : w.heap.size ∉ blocks (L :: r) := fun hm => by have := H.out.lt _ hm; omega
  refine (fixPar _ (L :: r) (Nat.le_refl _) _ L r rfl base x w.heap.size _ ve le (H.out.kept ka (by simp)) HS.out HD.out (HV.out.kept ka (by simp) (by simp)) HX.out HO.out hpb hpn (Nat.le_trans hb ka.size)).mono ?_
  rintro e w1 ⟨rfl, hA⟩
  have HA := Lib.hid (hA.before ka); clear hA
  go_wp2_with fail
  go_end0
  exact ⟨rfl, HA.out⟩
end Go.Proofs.YtepipmjcfnncdaaFmt
