/- The contracts of n008_125's zzBuildIndex, zzIndexGuardsFail and of ZZPrettyIndex. -/
import Derived.Test.YtepipmjcfnncdaaFmtPInP
import Derived.Test.YtepipmjcfnncdaaFmtPB
import Derived.Test.YtepipmjcfnncdaaFmtIdz
namespace Go.Proofs.YtepipmjcfnncdaaFmt
open Go.ChangeShapes Go.WideShapes Go.ChangeAt Go.RowKit

/-- It returns some bool; if it is v, P holds; the world is left alone. -/
def Bnd (v : Bool) (P : Prop) (w : World) (e : Ending) (w' : World) : Prop := ∃ b : Bool, e = .returned (.bool b) ∧ (b = v → P) ∧ w = w'

set_option maxHeartbeats 1000000 in
theorem zzGuards_any (w : World) (s : ByteArray) (a1 : Option Addr) (n1 cap1 : Nat) (a2 : Option Addr) (n2 cap2 : Nat) (h0 : s.size ≤ 1048576) (h1 : n1 ≤ 1048576) (h2 : n2 ≤ 1048576) :
    Calls Tryf.prog 14 #[.string s, .slice a1 n1 cap1, .slice a2 n2 cap2] w (Bnd false (n1 ≤ 65536 ∧ n2 ≤ 65536) w) := by
  by_cases e1 : 65536 < n1
  · go_enter Tryf.func14, Tryf.ntmps14
    go_wp2
    all_goals
      go_ret
      exact ⟨_, rfl, (fun h => by cases h), rfl⟩
  · by_cases e2 : 65536 < n2
    · go_enter Tryf.func14, Tryf.ntmps14
      go_wp2
      all_goals
        go_ret
        exact ⟨_, rfl, (fun h => by cases h), rfl⟩
    · go_enter Tryf.func14, Tryf.ntmps14
      go_wp2
      all_goals
        go_ret
        exact ⟨_, rfl, (fun _ => ⟨by omega, by omega⟩), rfl⟩

abbrev nodeBase (v : Value) : List Value := [v, .pointer none, .slice none 0 0, .pointer none, .string ⟨#[]⟩, .int .i64 0, .int .i64 0, .int .i64 0, .int .i64 0]
abbrev litObj (s : ByteArray) (v : Value) : Obj := .cells #[.string s, .string ⟨#[]⟩, .string ⟨#[]⟩, v, .pointer none, .slice none 0 0, .pointer none, .string ⟨#[]⟩, .int .i64 0, .int .i64 0, .int .i64 0, .int .i64 0, .int .i64 0] 53
abbrev varObj (s : ByteArray) : Obj := .cells #[.string s, .slice none 0 0, .pointer none, .slice none 0 0, .pointer none, .string ⟨#[]⟩, .int .i64 0, .int .i64 0, .int .i64 0, .int .i64 0] 66
abbrev idxObj (t l : Nat) (v : Value) : Obj := .cells #[.iface 58 (.pointer (some ⟨t, 0, none⟩)), .iface 25 (.pointer (some ⟨l, 0, none⟩)), v, .slice none 0 0, .pointer none, .slice none 0 0, .pointer none, .slice none 0 0, .pointer none, .string ⟨#[]⟩, .int .i64 0, .int .i64 0, .int .i64 0, .int .i64 0] 47

theorem idx_new {w w1 w2 : World} {v1 v2 : Value} {l1 l2 : List FE} (s t : ByteArray) (h1 : Fod w1 w.heap.size v1 l1) (k1 : Kept [] w w1) (h2 : Fod w2 ((w1.alloc (litObj s v1)).alloc (varObj t)).heap.size v2 l2)
    (k2 : Kept [] ((w1.alloc (litObj s v1)).alloc (varObj t)) w2) :
    IdxN (w2.alloc (idxObj (w1.heap.size + 1) w1.heap.size v2)) w.heap.size w2.heap.size (w1.heap.size + 1) w1.heap.size s v1 v2 l1 l2 := by
  have s1 := k1.size
  have s2 := k2.size
  have o1 := World.ownsRow.lt h1
  have o2 := World.ownsRow.lt h2
  simp only [World.size_alloc] at s2 o2
  have ka : Kept [] w2 (w2.alloc (idxObj (w1.heap.size + 1) w1.heap.size v2)) := (Kept.refl [] _).alloc _
  have kl : Kept [] (w1.alloc (litObj s v1)) (w2.alloc (idxObj (w1.heap.size + 1) w1.heap.size v2)) := (((Kept.refl [] _).alloc _).trans k2).trans ka
  have bl := kl.heap (heap_alloc_new w1 (litObj s v1)) (by simp)
  have bt : (w2.alloc (idxObj (w1.heap.size + 1) w1.heap.size v2)).heap[w1.heap.size + 1]? = some (varObj t) := by
    have := (k2.trans ka).heap (heap_alloc_new (w1.alloc (litObj s v1)) (varObj t)) (by simp)
    rwa [show (w1.alloc (litObj s v1)).heap.size = w1.heap.size + 1 by simp] at this
  have bn := heap_alloc_new w2 (idxObj (w1.heap.size + 1) w1.heap.size v2)
  have f1 := ((h1.kept ((Kept.refl [] _).alloc _) (by simp)).kept kl (by simp))
  have f2 := (h2.kept ka (by simp)).low (b' := w.heap.size) (by simp; omega)
  exact {
    c0 := cell_of_block bn 0
    ct := cell_of_block bt 1
    ft := frozen_of_block bt 1
    c1 := cell_of_block bn 1
    c2 := cell_of_block bn 2
    c3 := cell_of_block bn 3
    c4 := cell_of_block bn 4
    fn := frozen_of_block bn
    lv := cell_of_block bl 0
    lf := cell_of_block bl 3
    fl := frozen_of_block bl 3
    hl := f1
    hr := f2
    nt := by omega
    nl := by omega
    ol := fun e => by have := o1 _ e; omega }

def Built (w : World) (s : ByteArray) (l1 l2 : List FE) (e : Ending) (w' : World) : Prop :=
  ∃ nb tb lb v1 v2, e = .returned (.tuple #[.pointer (some ⟨nb, 0, none⟩), .pointer (some ⟨lb, 0, none⟩)]) ∧ IdxN w' w.heap.size nb tb lb s v1 v2 l1 l2 ∧ Kept [] w w' ∧ w.heap.size ≤ nb

set_option maxRecDepth 100000 in
set_option maxHeartbeats 4000000 in
theorem zzBuild_any (w : World) (s : ByteArray) (a1 : Option Addr) (n1 cap1 : Nat) (z1 : List Int) (a2 : Option Addr) (n2 cap2 : Nat) (z2 : List Int) (h1 : IsRow .i64 w a1 n1 cap1 z1) (h2 : IsRow .i64 w a2 n2 cap2 z2) (l1 : n1 ≤ 65536) (l2 : n2 ≤ 65536) :
    Calls Tryf.prog 15 #[.string s, .slice a1 n1 cap1, .slice a2 n2 cap2] w (Built w s ((z1.take n1).map bfe) ((z2.take n2).map bfe)) := by
  have W1 := Lib.hid h1; clear h1
  have W2 := Lib.hid h2; clear h2
  go_enter Tryf.func15, Tryf.ntmps15
  go_wp2_with fail
  refine (zzFodder_any _ _ _ _ z1 W1.out (by omega)).mono ?_
  rintro e w1 ⟨v1, rfl, hf1, hk1⟩
  obtain ⟨b1, m1, c1, rfl⟩ := hf1.isSlice
  have HF1 := Lib.hid hf1; clear hf1
  have HK1 := Lib.hid hk1; clear hk1
  go_wp2_with fail
  refine (zzFodder_any _ _ _ _ z2 (((HK1.out.alloc _).alloc _).ints W2.out (by simp)) (by omega)).mono ?_
  rintro e w2 ⟨v2, rfl, hf2, hk2⟩
  obtain ⟨b2, m2, c2, rfl⟩ := hf2.isSlice
  have HF2 := Lib.hid hf2; clear hf2
  have HK2 := Lib.hid hk2; clear hk2
  go_wp2_with fail
  go_ret2
  have n := idx_new s _ HF1.out HK1.out HF2.out HK2.out
  have kk : Kept [] w w2 := ((HK1.out.alloc _).alloc _).trans HK2.out
  exact ⟨_, _, _, _, _, rfl, n, kk.alloc _, kk.size⟩
end Go.Proofs.YtepipmjcfnncdaaFmt
