/- The walk of the law FnArrayCompIdempotent: it returns true at every flag and three slices of codes, and writes nothing that was there. -/
import Derived.Test.YtinaihfbakkcmaaFmtACn
import Derived.Test.YtinaihfbakkcmaaFmtZzC
namespace Go.Proofs.YtinaihfbakkcmaaFmt
open Go.ChangeShapes Go.WideShapes Go.ChangeAt Go.RowKit

set_option maxHeartbeats 400000 in
theorem zzBytes_ACI (w : World) (b : Bool) (a : Option Addr) (len cap : Nat) (a1 : Option Addr) (len1 cap1 : Nat) (a2 : Option Addr) (len2 cap2 : Nat) (h : len ≤ 9223372036854775807) (h1 : len1 ≤ 9223372036854775807) (h2 : len2 ≤ 9223372036854775807) :
    Calls Tryf.prog 23 #[.bool b, .slice a len cap, .slice a1 len1 cap1, .slice a2 len2 cap2] w (SomeBool w) := by
  go_enter Tryf.func23, Tryf.ntmps23
  go_wp2
  all_goals
    go_ret
    exact ⟨_, rfl, rfl⟩

abbrev nullObj : Obj := .cells #[.slice none 0 0, .pointer none, .slice none 0 0, .pointer none, .string ⟨#[]⟩, .int .i64 0, .int .i64 0, .int .i64 0, .int .i64 0] 42
abbrev acObj (x y : Nat) (v1 v2 v9 : Value) (tc : Bool) : Obj := .cells #[.iface 27 (.pointer (some ⟨x, 0, none⟩)), v1, v2, .slice none 0 0, .slice none 0 0, .pointer none,
  .iface 27 (.pointer (some ⟨y, 0, none⟩)), .string ⟨#[]⟩, .slice none 0 0, v9, .slice none 0 0, .pointer none, .slice none 0 0, .pointer none, .string ⟨#[]⟩, .int .i64 0, .int .i64 0, .int .i64 0, .int .i64 0, .bool tc] 72

theorem acnode_new {w w1 w2 w3 : World} {v1 v2 v9 : Value} {l1 l2 l9 : List FE} (tc : Bool) (h1 : Fod w1 (w.alloc nullObj).heap.size v1 l1) (k1 : Kept [] (w.alloc nullObj) w1) (h2 : Fod w2 w1.heap.size v2 l2) (k2 : Kept [] w1 w2)
    (h3 : Fod w3 (w2.alloc nullObj).heap.size v9 l9) (k3 : Kept [] (w2.alloc nullObj) w3) :
    ACNode (w3.alloc (acObj w.heap.size w2.heap.size v1 v2 v9 tc)) w.heap.size w3.heap.size w.heap.size w2.heap.size tc v1 v2 v9 l1 l2 l9 := by
  have s1 := k1.size
  have s2 := k2.size
  have s3 := k3.size
  have o1 := World.ownsRow.lt h1
  have o2 := World.ownsRow.lt h2
  have o3 := World.ownsRow.lt h3
  simp only [World.size_alloc] at s1 s3 o1 o3
  have e1 : Kept [] w2 w3 := ((Kept.refl [] _).alloc _).trans k3
  have ka : Kept [] w3 (w3.alloc (acObj w.heap.size w2.heap.size v1 v2 v9 tc)) := (Kept.refl [] _).alloc _
  have bb := ka.heap (e1.heap (k2.heap (k1.heap (heap_alloc_new w nullObj) (by simp)) (by simp)) (by simp)) (by simp)
  have be := ka.heap (k3.heap (heap_alloc_new w2 nullObj) (by simp)) (by simp)
  have bn := heap_alloc_new w3 (acObj w.heap.size w2.heap.size v1 v2 v9 tc)
  have f1 := ((h1.kept k2 (by simp)).kept e1 (by simp)).kept ka (by simp)
  have f2 := (h2.kept e1 (by simp)).kept ka (by simp)
  have f3 := h3.kept ka (by simp)
  have C := cell_of_block bn
  exact {
    two := {
      cp := C 1
      ct := C 19
      cq := C 2
      fp := frozen_of_block bn 1
      ft := frozen_of_block bn 19
      fq := frozen_of_block bn 2
      pq := by intro e; injection e with _ e; omega
      pt := by intro e; injection e with _ e; omega
      qt := by intro e; injection e with _ e; omega
      l := f1.low (by simp)
      c := f2.low (by omega)
      al := fun g hg => by
        have := o1 g hg
        refine ⟨by dsimp only; omega, by dsimp only; omega, by dsimp only; omega, fun e => ?_⟩
        have := o2 g e
        omega
      ac := fun g hg => by
        have := o2 g hg
        exact ⟨by dsimp only; omega, by dsimp only; omega, by dsimp only; omega⟩ }
    c0 := C 0
    c3 := C 3
    c4 := C 4
    c5 := C 5
    c6 := C 6
    c8 := C 8
    c9 := C 9
    h9 := f3.low (by simp; omega)
    o9 := fun g hg => by
      have := o3 g hg
      refine ⟨by omega, fun e => ?_, fun e => ?_⟩
      · have := o1 g e; omega
      · have := o2 g e; omega
    cb := cell_of_block bb 0
    fb := frozen_of_block bb 0
    ob := ⟨by omega, fun e => by have := o1 _ e; omega, fun e => by have := o2 _ e; omega⟩
    ce := cell_of_block be 0
    fe := frozen_of_block be 0
    oe := ⟨by omega, fun e => by have := o1 _ e; omega, fun e => by have := o2 _ e; omega⟩ }

theorem RmC.plain {tc : Bool} {l c l' c' : List FE} (h : RmC tc l c l' c') (hl : Plain l) (hc : Plain c) : Plain l' ∧ Plain c' := by
  rcases h with ⟨_, rfl, hk⟩ | ⟨_, rfl, rfl⟩
  · exact ⟨fun e he => by simp at he, hk.plain hl hc⟩
  · exact ⟨hl, hc⟩
theorem RmC.length {tc : Bool} {l c l' c' : List FE} (h : RmC tc l c l' c') : l'.length + c'.length ≤ l.length + c.length + 1 := by
  rcases h with ⟨_, rfl, hk⟩ | ⟨_, rfl, rfl⟩
  · have := hk.length
    simp
    omega
  · omega

namespace fnArrayCompIdempotent
set_option maxRecDepth 100000 in
set_option maxHeartbeats 4000000 in
theorem walk (a0 : Bool) (a1 : Option Addr) (len1 cap1 : Nat) (z1 : List Int) (a2 : Option Addr) (len2 cap2 : Nat) (z2 : List Int) (a3 : Option Addr) (len3 cap3 : Nat) (z3 : List Int) (w : World) (w1 : IsRow .i32 w a1 len1 cap1 z1) (w2 : IsRow .i32 w a2 len2 cap2 z2) (w3 : IsRow .i32 w a3 len3 cap3 z3) :
    Calls Tryf.prog 6 #[.bool a0, .slice a1 len1 cap1, .slice a2 len2 cap2, .slice a3 len3 cap3] w fun e w' => e = .returned (.bool true) ∧ Below w.heap.size w w' := by
  obtain ⟨hlc1, hcm1, -, -, -⟩ := w1.open
  obtain ⟨hlc2, hcm2, -, -, -⟩ := w2.open
  obtain ⟨hlc3, hcm3, -, -, -⟩ := w3.open
  unfold maxLen at hcm1 hcm2 hcm3
  have hb1 : len1 ≤ 9223372036854775807 := by omega
  have hb2 : len2 ≤ 9223372036854775807 := by omega
  have hb3 : len3 ≤ 9223372036854775807 := by omega
  have W1 := Lib.hid w1; clear w1
  have W2 := Lib.hid w2; clear w2
  have W3 := Lib.hid w3; clear w3
  obtain ⟨L1, hL1⟩ : ∃ L1, (z1.take len1).map cfe = L1 := ⟨_, rfl⟩
  obtain ⟨L2, hL2⟩ : ∃ L2, (z2.take len2).map cfe = L2 := ⟨_, rfl⟩
  obtain ⟨L3, hL3⟩ : ∃ L3, (z3.take len3).map cfe = L3 := ⟨_, rfl⟩
  have hP1 : Plain L1 := hL1 ▸ Plain.cfe _
  have hP2 : Plain L2 := hL2 ▸ Plain.cfe _
  have hP3 : Plain L3 := hL3 ▸ Plain.cfe _
  have hN1 : L1.length ≤ len1 := by rw [← hL1, List.length_map, List.length_take]; omega
  have hN2 : L2.length ≤ len2 := by rw [← hL2, List.length_map, List.length_take]; omega
  have hN3 : L3.length ≤ len3 := by rw [← hL3, List.length_map, List.length_take]; omega
  have HL1 := Lib.hid hL1; clear hL1
  have HL2 := Lib.hid hL2; clear hL2
  have HL3 := Lib.hid hL3; clear hL3
  have HP1 := Lib.hid hP1; clear hP1
  have HP2 := Lib.hid hP2; clear hP2
  have HP3 := Lib.hid hP3; clear hP3
  go_enter Tryf.func6, Tryf.ntmps6
  go_wp2_with fail
  refine (zzBytes_ACI _ _ _ _ _ _ _ _ _ _ _ hb1 hb2 hb3).mono ?_
  rintro e w' ⟨b, rfl, rfl⟩
  cases b
  · go_wp2_with fail
    go_ret
    exact ⟨rfl, Below.refl _ _⟩
  by_cases h2 : 65536 < len1
  · go_wp2_with fail
    go_ret
    exact ⟨rfl, Below.refl _ _⟩
  by_cases h3 : 65536 < len2
  · go_wp2_with fail
    go_ret
    exact ⟨rfl, Below.refl _ _⟩
  by_cases h4 : 65536 < len3
  · go_wp2_with fail
    go_ret
    exact ⟨rfl, Below.refl _ _⟩
  go_wp2_with fail
  refine (zzFodder_any _ _ _ _ z1 (((Kept.refl [] w).alloc _).ints W1.out (by simp)) (by omega)).mono ?_
  rintro e w1 ⟨v1, rfl, hf1, hk1⟩
  rw [HL1.out] at hf1
  obtain ⟨b1, c1, rfl, -⟩ := hf1.slice
  have HF1 := Lib.hid hf1; clear hf1
  have HK1 := Lib.hid hk1; clear hk1
  go_wp2_with fail
  refine (zzFodder_any _ _ _ _ z2 ((((Kept.refl [] w).alloc _).trans HK1.out).ints W2.out (by simp)) (by omega)).mono ?_
  rintro e w2 ⟨v2, rfl, hf2, hk2⟩
  rw [HL2.out] at hf2
  obtain ⟨b2, c2, rfl, -⟩ := hf2.slice
  have HF2 := Lib.hid hf2; clear hf2
  have HK2 := Lib.hid hk2; clear hk2
  go_wp2_with fail
  refine (zzFodder_any _ _ _ _ z3 (((((Kept.refl [] w).alloc _).trans HK1.out).trans (HK2.out.alloc _)).ints W3.out (by simp)) (by omega)).mono ?_
  rintro e w3 ⟨v3, rfl, hf3, hk3⟩
  rw [HL3.out] at hf3
  obtain ⟨b3, c3, rfl, -⟩ := hf3.slice
  have HF3 := Lib.hid hf3; clear hf3
  have HK3 := Lib.hid hk3; clear hk3
  go_wp2_with fail
  have hn := acnode_new a0 HF1.out HK1.out HF2.out HK2.out HF3.out HK3.out
  have hkw : Kept [] w w3 := (((Kept.refl [] w).alloc _).trans HK1.out).trans ((HK2.out.alloc _).trans HK3.out)
  obtain ⟨nb, hnb⟩ : ∃ nb, w3.heap.size = nb := ⟨_, rfl⟩
  have hwn : w.heap.size ≤ nb := hnb ▸ hkw.size
  have o1 : ∀ g, (Value.slice b1 L1.length c1).ownBlock = some g → w.heap.size ≤ g := fun g hg => by have := (World.ownsRow.lt hn.two.l g hg).1; exact this
  have hs0 : w.heap.size ≤ (w3.alloc (acObj w.heap.size w2.heap.size (.slice b1 L1.length c1) (.slice b2 L2.length c2) (.slice b3 L3.length c3) a0)).heap.size := by simp; omega
  refine (zzArrayComp _ w.heap.size _ _ _ a0 _ _ _ L1 L2 L3 hn (by omega) hs0 HP2.out.head).mono ?_
  rintro e w4 ⟨rfl, m1, m2, u1, u2, hrm, hn4, hk4, ho4⟩
  rw [hnb] at hn4 hk4 ⊢
  have hk5 : Kept [] w w4 := by
    refine (hkw.alloc _).then hk4 ?_
    intro k hk
    simp only [List.mem_cons, Option.mem_toList] at hk
    rcases hk with rfl | hk
    · exact Or.inr hwn
    · exact Or.inr (o1 k hk)
  have ou : ∀ g, u1.ownBlock = some g → w.heap.size ≤ g := fun g hg => by have := (World.ownsRow.lt hn4.two.l g hg).1; exact this
  have hpl := hrm.plain HP1.out HP2.out
  have hln := hrm.length
  obtain ⟨p1, p1n, p1c, rfl⟩ := hn4.two.l.isSlice
  obtain ⟨p2, p2n, p2c, rfl⟩ := hn4.two.c.isSlice
  have ct := hn4.two.ct
  have cp := hn4.two.cp
  have HN4 := Lib.hid hn4; clear hn4
  have HK5 := Lib.hid hk5; clear hk5
  have HPL := Lib.hid hpl; clear hpl
  have OU := Lib.hid ou; clear ou
  clear o1 ho4 hk4 hrm hn hkw hs0 HF1 HF2 HF3 HK1 HK2 HK3
  have HNB := Lib.hid hnb; clear hnb
  go_wp2_with fail
  refine (zzClone_any _ _ _ m1 HN4.out.two.l HPL.out.1 (by omega)).mono ?_
  rintro e w5 ⟨x5, l5, rfl, hf5, hs5, hk5⟩
  have HF5 := Lib.hid hf5; clear hf5
  have HS5 := Lib.hid hs5; clear hs5
  have HN5 := Lib.hid (HN4.out.kept hk5)
  have HK6 := Lib.hid (HK5.out.trans hk5)
  have cq5 := HN5.out.two.cq
  have z5 := hk5.size
  clear hk5 ct cp
  go_wp2_with fail
  refine (zzClone_any _ _ _ m2 HN5.out.two.c HPL.out.2 (by omega)).mono ?_
  rintro e w6 ⟨x6, l6, rfl, hf6, hs6, hk6⟩
  have HF6 := Lib.hid hf6; clear hf6
  have HS6 := Lib.hid hs6; clear hs6
  have HN6 := Lib.hid (HN5.out.kept hk6)
  have HK7 := Lib.hid (HK6.out.trans hk6)
  have HG5 := Lib.hid (HF5.out.kept hk6 (by simp))
  have c96 := HN6.out.c9
  have z6 := hk6.size
  clear hk6 cq5
  go_wp2_with fail
  refine (zzClone_any _ _ _ L3 HN6.out.h9 HP3.out (by omega)).mono ?_
  rintro e w7 ⟨x7, l7, rfl, hf7, hs7, hk7⟩
  have HF7 := Lib.hid hf7; clear hf7
  have HS7 := Lib.hid hs7; clear hs7
  have HN7 := Lib.hid (HN6.out.kept hk7)
  have HK8 := Lib.hid (HK7.out.trans hk7)
  have HG5' := Lib.hid (HG5.out.kept hk7 (by simp))
  have HG6 := Lib.hid (HF6.out.kept hk7 (by simp))
  have z7 := hk7.size
  clear hk7 c96
  go_wp2_with fail
  have w4n : nb < w4.heap.size := World.block_lt_of_cell? w4 _ HN4.out.c0
  have w4p : ∀ g, (Value.slice p1 p1n p1c).ownBlock = some g → g < w4.heap.size := fun g hg => (World.ownsRow.lt HN4.out.two.l g hg).2
  refine (zzArrayComp _ w.heap.size _ _ _ false _ _ _ m1 m2 L3 HN7.out (by omega) HK8.out.size HPL.out.2.head).mono ?_
  rintro e w8 ⟨rfl, n1, n2, q1, q2, hrm, hn8, hk8, ho8⟩
  obtain ⟨rfl, rfl⟩ : n1 = m1 ∧ n2 = m2 := by
    rcases hrm with ⟨e, _⟩ | ⟨_, e1, e2⟩
    · cases e
    · exact ⟨e1, e2⟩
  have hnot : ∀ g, w4.heap.size ≤ g → g ∉ nb :: (Value.slice p1 p1n p1c).ownBlock.toList := by
    intro g hg hm
    simp only [List.mem_cons, Option.mem_toList] at hm
    rcases hm with e | e
    · omega
    · have := w4p g e
      omega
  have g5 := HG5'.out.kept hk8 (fun g hg => hnot g (World.ownsRow.lt HG5'.out g hg).1)
  have g6 := HG6.out.kept hk8 (fun g hg => hnot g (Nat.le_trans z5 (World.ownsRow.lt HG6.out g hg).1))
  have g7 := HF7.out.kept hk8 (fun g hg => hnot g (Nat.le_trans (Nat.le_trans z5 z6) (World.ownsRow.lt HF7.out g hg).1))
  have hkw8 : Kept [] w w8 := by
    refine HK8.out.then hk8 ?_
    intro k hk
    simp only [List.mem_cons, Option.mem_toList] at hk
    rcases hk with rfl | hk
    · exact Or.inr hwn
    · exact Or.inr (OU.out k hk)
  have G5 := Lib.hid g5; clear g5
  have G6 := Lib.hid g6; clear g6
  have G7 := Lib.hid g7; clear g7
  have KW := Lib.hid hkw8; clear hkw8
  have ct := hn8.two.ct
  have cp := hn8.two.cp
  have HN8 := Lib.hid hn8; clear hn8
  clear hnot hk8 ho8 hrm w4p
  go_wp2_with fail
  refine (zzFodderEq_any _ _ _ _ _ n1 l5 HN8.out.two.l G5.out HS5.out).mono ?_
  rintro e w9 ⟨rfl, k9⟩
  have N9 := Lib.hid (HN8.out.kept k9)
  have G69 := Lib.hid (G6.out.kept k9 (by simp))
  have G79 := Lib.hid (G7.out.kept k9 (by simp))
  have KW9 := Lib.hid (KW.out.trans k9)
  have cq9 := N9.out.two.cq
  clear k9 ct cp
  go_wp2_with fail
  refine (zzFodderEq_any _ _ _ _ _ n2 l6 N9.out.two.c G69.out HS6.out).mono ?_
  rintro e w10 ⟨rfl, k10⟩
  have N10 := Lib.hid (N9.out.kept k10)
  have G710 := Lib.hid (G79.out.kept k10 (by simp))
  have KW10 := Lib.hid (KW9.out.trans k10)
  have c910 := N10.out.c9
  clear k10 cq9
  go_wp2_with fail
  refine (zzFodderEq_any _ _ _ _ _ L3 l7 N10.out.h9 G710.out HS7.out).mono ?_
  rintro e w11 ⟨rfl, k11⟩
  have KW11 := Lib.hid (KW10.out.trans k11)
  clear k11 c910
  go_wp2_with fail
  go_ret
  exact ⟨rfl, KW11.out.below (Nat.le_refl _) (by simp)⟩
end fnArrayCompIdempotent
end Go.Proofs.YtinaihfbakkcmaaFmt
