/- The walk of the law FnArrayFixesNestedArrays: it returns true at every two flags and four slices of codes, and writes nothing that was there. -/
import Derived.Test.YtinaihfbakkcmaaFmtNst
namespace Go.Proofs.YtinaihfbakkcmaaFmt
open Go.ChangeShapes Go.WideShapes Go.ChangeAt Go.RowKit

set_option maxHeartbeats 400000 in
theorem zzBytes_Nst (w : World) (b b' : Bool) (a : Option Addr) (len cap : Nat) (a1 : Option Addr) (len1 cap1 : Nat) (a2 : Option Addr) (len2 cap2 : Nat) (a3 : Option Addr) (len3 cap3 : Nat) (h : len ≤ 9223372036854775807) (h1 : len1 ≤ 9223372036854775807) (h2 : len2 ≤ 9223372036854775807) (h3 : len3 ≤ 9223372036854775807) :
    Calls Tryf.prog 26 #[.bool b, .bool b', .slice a len cap, .slice a1 len1 cap1, .slice a2 len2 cap2, .slice a3 len3 cap3] w (SomeBool w) := by
  go_enter Tryf.func26, Tryf.ntmps26
  go_wp2
  all_goals
    go_ret
    exact ⟨_, rfl, rfl⟩

abbrev nullObj : Obj := .cells #[.slice none 0 0, .pointer none, .slice none 0 0, .pointer none, .string ⟨#[]⟩, .int .i64 0, .int .i64 0, .int .i64 0, .int .i64 0] 42
abbrev elObj (x v : Value) : Obj := .cells #[x, v] 46
abbrev arrObj (e : Nat) (v : Value) (tc : Bool) : Obj := .cells #[.slice (some ⟨e, 0, none⟩) 1 1, v, .slice none 0 0, .pointer none, .slice none 0 0, .pointer none, .string ⟨#[]⟩, .int .i64 0, .int .i64 0, .int .i64 0, .int .i64 0, .bool tc] 55
abbrev lnV (x : Nat) : Value := .iface 27 (.pointer (some ⟨x, 0, none⟩))
abbrev arV (x : Nat) : Value := .iface 53 (.pointer (some ⟨x, 0, none⟩))

theorem nest_new {w w1 w2 w3 w4 : World} {v1 v2 v3 v4 : Value} {l1 l2 l3 l4 : List FE} (to ti : Bool) (h1 : Fod w1 (w.alloc nullObj).heap.size v1 l1) (k1 : Kept [] (w.alloc nullObj) w1)
    (h2 : Fod w2 (w1.alloc (elObj (lnV w.heap.size) v1)).heap.size v2 l2) (k2 : Kept [] (w1.alloc (elObj (lnV w.heap.size) v1)) w2)
    (h3 : Fod w3 (w2.alloc (arrObj w1.heap.size v2 ti)).heap.size v3 l3) (k3 : Kept [] (w2.alloc (arrObj w1.heap.size v2 ti)) w3)
    (h4 : Fod w4 (w3.alloc (elObj (arV w2.heap.size) v3)).heap.size v4 l4) (k4 : Kept [] (w3.alloc (elObj (arV w2.heap.size) v3)) w4) :
    Nest (w4.alloc (arrObj w3.heap.size v4 to)) w.heap.size w4.heap.size w3.heap.size w2.heap.size w1.heap.size to ti v3 v4 v1 v2 l3 l4 l1 l2 := by
  have s1 := k1.size
  have s2 := k2.size
  have s3 := k3.size
  have s4 := k4.size
  have o1 := World.ownsRow.lt h1
  have o2 := World.ownsRow.lt h2
  have o3 := World.ownsRow.lt h3
  have o4 := World.ownsRow.lt h4
  simp only [World.size_alloc] at s1 s2 s3 s4 o1 o2 o3 o4
  have a4 : Kept [] w4 (w4.alloc (arrObj w3.heap.size v4 to)) := (Kept.refl [] _).alloc _
  have a3 : Kept [] w3 (w4.alloc (arrObj w3.heap.size v4 to)) := (((Kept.refl [] _).alloc _).trans k4).trans a4
  have a2 : Kept [] w2 (w4.alloc (arrObj w3.heap.size v4 to)) := (((Kept.refl [] _).alloc _).trans k3).trans a3
  have a1 : Kept [] w1 (w4.alloc (arrObj w3.heap.size v4 to)) := (((Kept.refl [] _).alloc _).trans k2).trans a2
  have bl := a1.heap (k1.heap (heap_alloc_new w nullObj) (by simp)) (by simp)
  have be := a2.heap (k2.heap (heap_alloc_new w1 (elObj (lnV w.heap.size) v1)) (by simp)) (by simp)
  have bi := a3.heap (k3.heap (heap_alloc_new w2 (arrObj w1.heap.size v2 ti)) (by simp)) (by simp)
  have bo := a4.heap (k4.heap (heap_alloc_new w3 (elObj (arV w2.heap.size) v3)) (by simp)) (by simp)
  have bn := heap_alloc_new w4 (arrObj w3.heap.size v4 to)
  have f1 := (h1.kept a1 (by simp)).low (b' := w.heap.size) (by simp)
  have f2 := (h2.kept a2 (by simp)).low (b' := w.heap.size) (by simp; omega)
  have f3 := (h3.kept a3 (by simp)).low (b' := w.heap.size) (by simp; omega)
  have f4 := (h4.kept a4 (by simp)).low (b' := w.heap.size) (by simp; omega)
  have hleaf : (w4.alloc (arrObj w3.heap.size v4 to)).cell? ⟨w1.heap.size, 0, none⟩ = some (lnV w.heap.size) := cell_of_block be 0
  exact {
    two := {
      cp := cell_of_block bo 1
      ct := cell_of_block bn 11
      cq := cell_of_block bn 1
      fp := frozen_of_block bo 1
      ft := frozen_of_block bn 11
      fq := frozen_of_block bn 1
      pq := by intro e; injection e with e _; omega
      pt := by intro e; injection e with e _; omega
      qt := by intro e; injection e with _ e; omega
      l := f3
      c := f4
      al := fun g hg => by
        have := o3 g hg
        refine ⟨by dsimp only; omega, by dsimp only; omega, by dsimp only; omega, fun e => ?_⟩
        have := o4 g e
        omega
      ac := fun g hg => by
        have := o4 g hg
        exact ⟨by dsimp only; omega, by dsimp only; omega, by dsimp only; omega⟩ }
    c0 := cell_of_block bn 0
    cx := cell_of_block bo 0
    inn := {
      two := {
        cp := cell_of_block be 1
        ct := cell_of_block bi 11
        cq := cell_of_block bi 1
        fp := frozen_of_block be 1
        ft := frozen_of_block bi 11
        fq := frozen_of_block bi 1
        pq := by intro e; injection e with e _; omega
        pt := by intro e; injection e with e _; omega
        qt := by intro e; injection e with _ e; omega
        l := f1
        c := f2
        al := fun g hg => by
          have := o1 g hg
          refine ⟨by dsimp only; omega, by dsimp only; omega, by dsimp only; omega, fun e => ?_⟩
          have := o2 g e
          omega
        ac := fun g hg => by
          have := o2 g hg
          exact ⟨by dsimp only; omega, by dsimp only; omega, by dsimp only; omega⟩ }
      c0 := cell_of_block bi 0
      ne := by omega
      el := fun i hi => by
        obtain rfl : i = 0 := by omega
        refine ⟨w.heap.size, hleaf, cell_of_block bl 0, frozen_of_block bl 0, by omega, by omega, fun e => ?_, fun e => ?_⟩
        · have := o1 _ e; omega
        · have := o2 _ e; omega
      cm := fun i hi => by omega }
    f2 := cell_of_block bi 2
    ff := frozen_of_block bi 2
    ne := by omega
    d := ⟨by omega, by omega, by omega, by omega⟩
    far := fun g hg => by
      refine ⟨fun e => ?_, fun e => ?_⟩
      · have := o3 g e
        rcases hg with rfl | rfl | h | h
        · omega
        · omega
        · have := o1 g h; omega
        · have := o2 g h; omega
      · have := o4 g e
        rcases hg with rfl | rfl | h | h
        · omega
        · omega
        · have := o1 g h; omega
        · have := o2 g h; omega
    far2 := fun g hg => by
      rcases hg with h | h
      · have := o1 g h; omega
      · have := o2 g h; omega
    leaf := fun xb hx => by
      rw [hleaf] at hx
      obtain rfl : w.heap.size = xb := by simpa using hx
      refine ⟨by omega, by omega, fun e => ?_, fun e => ?_⟩
      · have := o3 _ e; omega
      · have := o4 _ e; omega }

namespace fnArrayFixesNestedArrays
set_option maxRecDepth 100000 in
set_option maxHeartbeats 16000000 in
theorem walk (a0 a1 : Bool) (a2 : Option Addr) (len2 cap2 : Nat) (z2 : List Int) (a3 : Option Addr) (len3 cap3 : Nat) (z3 : List Int) (a4 : Option Addr) (len4 cap4 : Nat) (z4 : List Int) (a5 : Option Addr) (len5 cap5 : Nat) (z5 : List Int) (w : World)
    (w2 : IsRow .i32 w a2 len2 cap2 z2) (w3 : IsRow .i32 w a3 len3 cap3 z3) (w4 : IsRow .i32 w a4 len4 cap4 z4) (w5 : IsRow .i32 w a5 len5 cap5 z5) :
    Calls Tryf.prog 8 #[.bool a0, .bool a1, .slice a2 len2 cap2, .slice a3 len3 cap3, .slice a4 len4 cap4, .slice a5 len5 cap5] w fun e w' => e = .returned (.bool true) ∧ Below w.heap.size w w' := by
  obtain ⟨hlc2, hcm2, -, -, -⟩ := w2.open
  obtain ⟨hlc3, hcm3, -, -, -⟩ := w3.open
  obtain ⟨hlc4, hcm4, -, -, -⟩ := w4.open
  obtain ⟨hlc5, hcm5, -, -, -⟩ := w5.open
  unfold maxLen at hcm2 hcm3 hcm4 hcm5
  have hb2 : len2 ≤ 9223372036854775807 := by omega
  have hb3 : len3 ≤ 9223372036854775807 := by omega
  have hb4 : len4 ≤ 9223372036854775807 := by omega
  have hb5 : len5 ≤ 9223372036854775807 := by omega
  have W2 := Lib.hid w2; clear w2
  have W3 := Lib.hid w3; clear w3
  have W4 := Lib.hid w4; clear w4
  have W5 := Lib.hid w5; clear w5
  obtain ⟨L2, hL2⟩ : ∃ L, (z2.take len2).map cfe = L := ⟨_, rfl⟩
  obtain ⟨L3, hL3⟩ : ∃ L, (z3.take len3).map cfe = L := ⟨_, rfl⟩
  obtain ⟨L4, hL4⟩ : ∃ L, (z4.take len4).map cfe = L := ⟨_, rfl⟩
  obtain ⟨L5, hL5⟩ : ∃ L, (z5.take len5).map cfe = L := ⟨_, rfl⟩
  have hN2 : L2.length ≤ len2 := by rw [← hL2, List.length_map, List.length_take]; omega
  have hN3 : L3.length ≤ len3 := by rw [← hL3, List.length_map, List.length_take]; omega
  have hN4 : L4.length ≤ len4 := by rw [← hL4, List.length_map, List.length_take]; omega
  have hN5 : L5.length ≤ len5 := by rw [← hL5, List.length_map, List.length_take]; omega
  have hP2 : Plain L2 := hL2 ▸ Plain.cfe _
  have hP3 : Plain L3 := hL3 ▸ Plain.cfe _
  have hP4 : Plain L4 := hL4 ▸ Plain.cfe _
  have hP5 : Plain L5 := hL5 ▸ Plain.cfe _
  have HP2 := Lib.hid hP2; clear hP2
  have HP3 := Lib.hid hP3; clear hP3
  have HP4 := Lib.hid hP4; clear hP4
  have HP5 := Lib.hid hP5; clear hP5
  have HL2 := Lib.hid hL2; clear hL2
  have HL3 := Lib.hid hL3; clear hL3
  have HL4 := Lib.hid hL4; clear hL4
  have HL5 := Lib.hid hL5; clear hL5
  obtain ⟨A2, hA2⟩ : ∃ A, anyNL L2 = A := ⟨_, rfl⟩
  obtain ⟨A3, hA3⟩ : ∃ A, anyNL L3 = A := ⟨_, rfl⟩
  obtain ⟨A4, hA4⟩ : ∃ A, anyNL L4 = A := ⟨_, rfl⟩
  obtain ⟨A5, hA5⟩ : ∃ A, anyNL L5 = A := ⟨_, rfl⟩
  have HA2 := Lib.hid hA2; clear hA2
  have HA3 := Lib.hid hA3; clear hA3
  have HA4 := Lib.hid hA4; clear hA4
  have HA5 := Lib.hid hA5; clear hA5
  go_enter Tryf.func8, Tryf.ntmps8
  go_wp2_with fail
  refine (zzBytes_Nst _ _ _ _ _ _ _ _ _ _ _ _ _ _ _ hb2 hb3 hb4 hb5).mono ?_
  rintro e w' ⟨b, rfl, rfl⟩
  cases b
  · go_wp2_with fail
    go_ret
    exact ⟨rfl, Below.refl _ _⟩
  by_cases h2 : 65536 < len2
  · go_wp2_with fail
    go_ret
    exact ⟨rfl, Below.refl _ _⟩
  by_cases h3 : 65536 < len3
  · go_wp2_with fail
    go_ret
    exact ⟨rfl, Below.refl _ _⟩
  by_cases h4 : 65536 < len4
  · go_wp2_with fail
    go_ret
    exact ⟨rfl, Below.refl _ _⟩
  by_cases h5 : 65536 < len5
  · go_wp2_with fail
    go_ret
    exact ⟨rfl, Below.refl _ _⟩
  go_wp2_with fail
  refine (zzCodesBreak_any _ _ _ _ z3 W3.out).mono ?_
  rintro e w' ⟨rfl, rfl⟩
  rw [HL3.out, HA3.out]
  cases A3
  focus
    go_wp2_with fail
    refine (zzCodesBreak_any _ _ _ _ z4 W4.out).mono ?_
    rintro e w' ⟨rfl, rfl⟩
    rw [HL4.out, HA4.out]
  all_goals
    go_wp2_with fail
    refine (zzCodesBreak_any _ _ _ _ z2 W2.out).mono ?_
    rintro e w' ⟨rfl, rfl⟩
    rw [HL2.out, HA2.out]
    cases A2
  focus
    go_wp2_with fail
    refine (zzCodesBreak_any _ _ _ _ z5 W5.out).mono ?_
    rintro e w' ⟨rfl, rfl⟩
    rw [HL5.out, HA5.out]
  rotate_left 2
  focus
    go_wp2_with fail
    refine (zzCodesBreak_any _ _ _ _ z5 W5.out).mono ?_
    rintro e w' ⟨rfl, rfl⟩
    rw [HL5.out, HA5.out]
  all_goals
    go_wp2_with fail
    refine (zzFodder_any _ _ _ _ z3 (((Kept.refl [] w).alloc _).ints W3.out (by simp)) (by omega)).mono ?_
    rintro e w1 ⟨v1, rfl, hf1, hk1⟩
    rw [HL3.out] at hf1
    obtain ⟨b1, c1, rfl, -⟩ := hf1.slice
    have HF1 := Lib.hid hf1; clear hf1
    have HK1 := Lib.hid hk1; clear hk1
    go_wp2_with fail
    refine (zzFodder_any _ _ _ _ z4 (((((Kept.refl [] w).alloc _).trans HK1.out).alloc _).ints W4.out (by simp)) (by omega)).mono ?_
    rintro e w2 ⟨v2, rfl, hf2, hk2⟩
    rw [HL4.out] at hf2
    obtain ⟨b2, c2, rfl, -⟩ := hf2.slice
    have HF2 := Lib.hid hf2; clear hf2
    have HK2 := Lib.hid hk2; clear hk2
    go_wp2_with fail
    refine (zzFodder_any _ _ _ _ z2 (((((((Kept.refl [] w).alloc _).trans HK1.out).alloc _).trans HK2.out).alloc _).ints W2.out (by simp)) (by omega)).mono ?_
    rintro e w3 ⟨v3, rfl, hf3, hk3⟩
    rw [HL2.out] at hf3
    obtain ⟨b3, c3, rfl, -⟩ := hf3.slice
    have HF3 := Lib.hid hf3; clear hf3
    have HK3 := Lib.hid hk3; clear hk3
    go_wp2_with fail
    refine (zzFodder_any _ _ _ _ z5 (((((((((Kept.refl [] w).alloc _).trans HK1.out).alloc _).trans HK2.out).alloc _).trans HK3.out).alloc _).ints W5.out (by simp)) (by omega)).mono ?_
    rintro e w4 ⟨v4, rfl, hf4, hk4⟩
    rw [HL5.out] at hf4
    obtain ⟨b4, c4, rfl, -⟩ := hf4.slice
    have HF4 := Lib.hid hf4; clear hf4
    have HK4 := Lib.hid hk4; clear hk4
    go_wp2_with fail
    have hn := nest_new a0 a1 HF1.out HK1.out HF2.out HK2.out HF3.out HK3.out HF4.out HK4.out
    have hkw : Kept [] w w4 := ((((((((Kept.refl [] w).alloc _).trans HK1.out).alloc _).trans HK2.out).alloc _).trans HK3.out).alloc _).trans HK4.out
    obtain ⟨no, hno⟩ : ∃ no, w4.heap.size = no := ⟨_, rfl⟩
    obtain ⟨eo, heo⟩ : ∃ eo, w3.heap.size = eo := ⟨_, rfl⟩
    obtain ⟨ni, hni⟩ : ∃ ni, w2.heap.size = ni := ⟨_, rfl⟩
    obtain ⟨ei, hei⟩ : ∃ ei, w1.heap.size = ei := ⟨_, rfl⟩
    have hs0 : w.heap.size ≤ (w4.alloc (arrObj w3.heap.size (.slice b4 L5.length c4) a0)).heap.size := Nat.le_trans hkw.size ((Kept.refl [] w4).alloc _).size
    have g1 : w.heap.size ≤ no := hno ▸ hkw.size
    have g2 : w.heap.size ≤ eo := heo ▸ (((((((Kept.refl [] w).alloc _).trans HK1.out).alloc _).trans HK2.out).alloc _).trans HK3.out).size
    have g3 : w.heap.size ≤ ni := hni ▸ (((((Kept.refl [] w).alloc _).trans HK1.out).alloc _).trans HK2.out).size
    have g4 : w.heap.size ≤ ei := hei ▸ (((Kept.refl [] w).alloc _).trans HK1.out).size
    have o1 := fun g hg => (World.ownsRow.lt hn.two.l g hg).1
    have o2 := fun g hg => (World.ownsRow.lt hn.inn.two.l g hg).1
    refine (zzNest _ w.heap.size _ _ _ _ a0 a1 _ _ _ _ L2 L5 L3 L4 hn (by omega) (by omega) hs0 HP4.out.head HP5.out.head).mono ?_
    rintro e w5 ⟨rfl, m2, m5, u3, u4, m3, m4, u1, u2, fx1, fx2, ht, hc, hi, hk5⟩
    rw [hno, heo] at ht hc
    rw [hni, hei] at hi
    rw [hno, heo, hni, hei] at hk5
    have hk6 : Kept [] w w5 := by
      refine (hkw.alloc _).then hk5 ?_
      intro k hk
      simp only [List.mem_cons, List.mem_append, Option.mem_toList] at hk
      rcases hk with rfl | rfl | rfl | rfl | hk | hk
      · exact Or.inr g2
      · exact Or.inr g1
      · exact Or.inr g4
      · exact Or.inr g3
      · exact Or.inr (o1 k hk)
      · exact Or.inr (o2 k hk)
    have n1 := fx1.nlKeeps
    have n2 := fx2.nlKeeps
    simp only [HA2.out, HA3.out, HA4.out, HA5.out, Bool.or_false, Bool.or_true] at ht hi n1 n2
    have HT := Lib.hid ht; clear ht
    have HI := Lib.hid hi; clear hi
    have HK6 := Lib.hid hk6; clear hk6
    have t1 := HT.out.ct
    have t2 := HT.out.cq
    have t3 := HT.out.cp
    have t4 := HI.out.two.ct
    have t5 := HI.out.two.cq
    have t6 := HI.out.two.cp
    have t7 := HI.out.c0
    simp only [Nat.zero_mul, Nat.zero_add] at t6 t7
    rw [hno, hni]
    obtain ⟨X, hX⟩ : ∃ X, anyNL m5 = X := ⟨_, rfl⟩
    obtain ⟨Y, hY⟩ : ∃ Y, anyNL m2 = Y := ⟨_, rfl⟩
    obtain ⟨U, hU⟩ : ∃ U, anyNL m4 = U := ⟨_, rfl⟩
    obtain ⟨V, hV⟩ : ∃ V, anyNL m3 = V := ⟨_, rfl⟩
    rw [hX, hY] at n1
    rw [hU, hV] at n2
    obtain ⟨q1, q1n, q1c, rfl⟩ := HT.out.l.isSlice
    obtain ⟨q2, q2n, q2c, rfl⟩ := HT.out.c.isSlice
    obtain ⟨q3, q3n, q3c, rfl⟩ := HI.out.two.l.isSlice
    obtain ⟨q4, q4n, q4c, rfl⟩ := HI.out.two.c.isSlice
    have HX := Lib.hid hX; clear hX
    have HY := Lib.hid hY; clear hY
    have HU := Lib.hid hU; clear hU
    have HV := Lib.hid hV; clear hV
    clear hk5 hno heo hni hei fx1 fx2 hs0 o1 o2 hn hkw HF1 HF2 HF3 HF4 HK1 HK2 HK3 HK4
    cases X <;> (try simp only [Bool.false_or, Bool.true_or] at n1) <;> (try (first | subst n1 | clear n1)) <;> cases U <;> (try simp only [Bool.false_or, Bool.true_or] at n2) <;> (try (first | subst n2 | clear n2))
    all_goals
      go_wp2_with fail
      refine (zzFodderBreak_any _ _ _ m5 HT.out.c).mono ?_
      rintro e w' ⟨rfl, rfl⟩
      rw [HX.out]
      go_wp2_with fail
      (try ((with_reducible refine (zzFodderBreak_any _ _ _ m2 HT.out.l).mono ?_); rintro e w' ⟨rfl, rfl⟩; rw [HY.out]; go_wp2_with fail))
      refine (zzFodderBreak_any _ _ _ m4 HI.out.two.c).mono ?_
      rintro e w' ⟨rfl, rfl⟩
      rw [HU.out]
      go_wp2_with fail
      (try ((with_reducible refine (zzFodderBreak_any _ _ _ m3 HI.out.two.l).mono ?_); rintro e w' ⟨rfl, rfl⟩; rw [HV.out]; go_wp2_with fail))
      go_ret
      exact ⟨by simp, HK6.out.below (Nat.le_refl _) (by simp)⟩
end fnArrayFixesNestedArrays
end Go.Proofs.YtinaihfbakkcmaaFmt
