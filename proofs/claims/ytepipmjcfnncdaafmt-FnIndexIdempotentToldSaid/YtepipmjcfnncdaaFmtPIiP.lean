/- The walk of the law FnIndexIdempotent: it returns true at every text and two slices of numbers, and writes nothing that was there. -/
import Derived.Test.YtepipmjcfnncdaaFmtPIlP
namespace Go.Proofs.YtepipmjcfnncdaaFmt
open Go.ChangeShapes Go.WideShapes Go.ChangeAt Go.RowKit

theorem Tryf.infoI : (Tryf.prog.info? 3).map (fun i => (i.zero, i.size, i.bytes)) = some (some (.int .i64 0), 1, 8) := by kernel_rfl

/-- The first m of n numbers as f says, the rest zero. -/
def nTo (f : Nat → Int) (n m : Nat) : List Value := (List.range n).map fun j => .int .i64 (if j < m then f j else 0)
theorem nTo_length (f : Nat → Int) (n m : Nat) : (nTo f n m).length = n := by simp [nTo]
theorem nTo_set (f : Nat → Int) (n m : Nat) (h : m < n) : (nTo f n m).set m (.int .i64 (f m)) = nTo f n (m + 1) := by
  apply List.ext_getElem?
  intro j
  rw [List.getElem?_set]
  by_cases hj : m = j
  · subst hj
    simp [nTo, h]
  · rw [if_neg hj]
    simp only [nTo, List.getElem?_map]
    by_cases hn : j < n
    · simp only [List.getElem?_range hn, Option.map_some, Option.some.injEq]
      have : (j < m) = (j < m + 1) := by apply propext; omega
      simp only [this]
    · simp [hn]

theorem nTo_zero (f : Nat → Int) (n : Nat) : (madeCells #[.int .i64 0] n).toList = nTo f n 0 := by
  apply List.ext_getElem?
  intro j
  simp only [madeCells, Array.toList_map, List.getElem?_map, Array.toList_range, nTo]
  by_cases h : j < n
  · rw [List.getElem?_range h]
    simp [Nat.mod_one]
  · simp [h]

def Blanks (w : World) (l : List FE) (e : Ending) (w' : World) : Prop :=
  ∃ a c, e = .returned (.slice a l.length c) ∧ IntRow w' a l.length (l.map (·.b)) ∧ (∀ b o, a = some ⟨b, o, none⟩ → w.heap.size ≤ b) ∧ Kept [] w w'

set_option maxRecDepth 100000 in
set_option maxHeartbeats 1000000 in
theorem zzBlanksOf_any (w : World) (base : Nat) (v : Value) (l : List FE) (h : Fod w base v l) (hlen : l.length ≤ 1048576) : Calls Tryf.prog 49 #[v] w (Blanks w l) := by
  obtain ⟨fa, fc, rfl, -, -, ha⟩ := h.slice
  obtain ⟨n, hn⟩ : ∃ n, l.length = n := ⟨_, rfl⟩
  obtain ⟨f, hf⟩ : ∃ f : Nat → Int, f = fun j => (l.map (·.b)).getD j 0 := ⟨_, rfl⟩
  have H := Lib.hid h; clear h
  have HA := Lib.hid ha; clear ha
  rw [hn] at hlen ⊢
  have HN := Lib.hid hn; clear hn
  have HF := Lib.hid hf; clear hf
  obtain ⟨i0, hi, hz0, hz1, hz2⟩ := info_parts Tryf.infoI
  go_enter Tryf.func49, Tryf.ntmps49
  go_wp2_with (at_make; refine wpList_make_full _ rfl _ _ 22 rfl w.heap.size 3 i0 _ 1 Tryf.underlying22 hi hz0 hz1 _ _ _ _ n rfl rfl rfl rfl ?b2 ?b3 (Nat.le_refl _) ?_)
  case b2 => rw [hz2]; omega
  case b3 => unfold maxLen; omega
  intro w1 hown hgrow
  have hb : Kept [] w w1 := (Kept.refl _ _).grown hgrow (by simp)
  clear hgrow hi hz0 hz1 hz2
  have ho : w1.ownsRow w.heap.size 3 1 (.slice (some ⟨w.heap.size, 0, none⟩) n n) n (nTo f n 0) := by
    rw [← nTo_zero]
    exact hown
  clear hown
  obtain ⟨B, hB⟩ : ∃ B, w.heap.size = B := ⟨_, rfl⟩
  rw [hB] at ho ⊢
  have HBB := Lib.hid hB; clear hB
  have HO := Lib.hid ho; clear ho
  have HB := Lib.hid hb; clear hb
  go_wp2
  go_loopw [4] (fun i wr => ∃ m : Nat, m ≤ n ∧ i = .int .i64 m ∧ wr.ownsRow B 3 1 (.slice (some ⟨B, 0, none⟩) n n) n (nTo f n m) ∧ Kept [] w wr) (fun i _ => n - (intOf i).toNat)
  case atStart => exact ⟨0, Nat.zero_le _, rfl, HO.out, HB.out⟩
  case round =>
    clear HO HB
    obtain ⟨m, hm, rfl, ho, hb⟩ := hrel
    have HB := Lib.hid hb; clear hb
    by_cases hlt : m < n
    · obtain ⟨g, rfl, -, -⟩ := HA.out m (by rw [HN.out]; exact hlt)
      obtain ⟨x, hx, -, -, c2, -⟩ := H.out.cells m (by rw [HN.out]; exact hlt)
      have d2 := HB.out.cell c2 (by simp)
      have hxf : x.b = f m := by
        rw [HF.out]
        simp [hx]
      rw [hxf] at d2
      have hnew := (World.ownsRow.stored ho m (.int .i64 (f m))).1
      rw [nTo_set f n m hlt] at hnew
      have hcell := World.ownsRow.cells ho (g := B) rfl m (.int .i64 0) (by simp [nTo, hlt])
      rw [add_off, Nat.zero_add] at hcell
      have hfr := World.ownsRow.frozenAt ho m
      have HNEW := Lib.hid hnew; clear hnew
      clear ho c2 hx hxf
      go_wp2_with fail
      go_roundw
      case rel => exact ⟨m + 1, by omega, by go_num, HNEW.out, HB.out.setCell (Or.inr (by dsimp only; rw [HBB.out]; omega)) _⟩
      case measure => simp [intOf]; omega
    · obtain rfl : m = n := by omega
      have HO := Lib.hid ho; clear ho
      go_wp2_with fail
      go_ret
      refine ⟨some ⟨B, 0, none⟩, m, by rw [HN.out]; rfl, fun i hi => ?_, fun b o e => ?_, HB.out⟩
      · rw [HN.out] at hi
        refine ⟨B, 0, rfl, ?_, ?_⟩
        · exact (World.ownsRow.lt HO.out B rfl).2
        · have := World.ownsRow.cells HO.out (g := B) rfl i (.int .i64 (f i)) (by simp [nTo, hi])
          rw [add_off] at this
          rw [this, HF.out]
      · injection e with e
        injection e with e _
        rw [HBB.out]
        omega

set_option maxRecDepth 100000 in
theorem zzAsLit_nil (w : World) : Calls Tryf.prog 19 #[.nilIface] w fun e w' => e = .returned (.pointer none) ∧ w = w' := by
  have ta : ∀ w : World, (Instr.typeAssert .nilIface 31 25 true).run Tryf.prog w = .ok (.tuple #[.pointer none, .bool false]) w := fun _ => by kernel_rfl
  go_enter Tryf.func19, Tryf.ntmps19
  go_wp2_with fail
  go_ret
  exact ⟨rfl, rfl⟩

set_option maxHeartbeats 1000000 in
theorem zzBytes_PIi (w : World) (s : ByteArray) (a1 : Option Addr) (n1 cap1 : Nat) (a2 : Option Addr) (n2 cap2 : Nat) (h0 : s.size ≤ 9223372036854775807) (h1 : n1 ≤ 9223372036854775807) (h2 : n2 ≤ 9223372036854775807) :
    Calls Tryf.prog 48 #[.string s, .slice a1 n1 cap1, .slice a2 n2 cap2] w (Bnd true (s.size ≤ 1048576 ∧ n1 ≤ 1048576 ∧ n2 ≤ 1048576) w) := by
  go_enter Tryf.func48, Tryf.ntmps48
  go_wp2
  all_goals
    go_ret
    exact ⟨_, rfl, (fun h => by first | (cases h; done) | exact ⟨by omega, by omega, by omega⟩), rfl⟩

namespace fnIndexIdempotent
set_option maxRecDepth 100000 in
set_option maxHeartbeats 4000000 in
theorem walk (a0 : ByteArray) (a1 : Option Addr) (len1 cap1 : Nat) (z1 : List Int) (a2 : Option Addr) (len2 cap2 : Nat) (z2 : List Int) (w : World) (w0 : a0.size ≤ maxLen) (w1 : IsRow .i64 w a1 len1 cap1 z1) (w2 : IsRow .i64 w a2 len2 cap2 z2) :
    Calls Tryf.prog 8 #[.string a0, .slice a1 len1 cap1, .slice a2 len2 cap2] w fun e w' => e = .returned (.bool true) ∧ Below w.heap.size w w' := by
  obtain ⟨hlc1, hcm1, hz1, -, -⟩ := w1.open
  obtain ⟨hlc2, hcm2, hz2, -, -⟩ := w2.open
  unfold maxLen at hcm1 hcm2 w0
  have W1 := Lib.hid w1; clear w1
  have W2 := Lib.hid w2; clear w2
  obtain ⟨L1, hL1⟩ : ∃ L, (z1.take len1).map bfe = L := ⟨_, rfl⟩
  obtain ⟨L2, hL2⟩ : ∃ L, (z2.take len2).map bfe = L := ⟨_, rfl⟩
  have hN1 : L1.length ≤ len1 := by rw [← hL1, List.length_map, List.length_take]; omega
  have hN2 : L2.length ≤ len2 := by rw [← hL2, List.length_map, List.length_take]; omega
  have HL1 := Lib.hid hL1; clear hL1
  have HL2 := Lib.hid hL2; clear hL2
  clear hz1 hz2
  obtain ⟨I, hI⟩ : ∃ I, identB a0 = I := ⟨_, rfl⟩
  have HI := Lib.hid hI; clear hI
  have hb1 : len1 ≤ 9223372036854775807 := by omega
  have hb2 : len2 ≤ 9223372036854775807 := by omega
  go_enter Tryf.func8, Tryf.ntmps8
  go_wp2_with fail
  refine (zzBytes_PIi _ _ _ _ _ _ _ _ w0 hb1 hb2).mono ?_
  rintro e w' ⟨b, rfl, hb, rfl⟩
  cases b
  · clear hb
    go_wp2_with fail
    go_ret
    exact ⟨rfl, Below.refl _ _⟩
  obtain ⟨g0, g1, g2⟩ := hb rfl
  clear hb
  go_wp2_with fail
  refine (zzGuards_any _ _ _ _ _ _ _ _ g0 g1 g2).mono ?_
  rintro e w' ⟨b, rfl, hb, rfl⟩
  cases b
  rotate_left 1
  · clear hb
    go_wp2_with fail
    go_ret
    exact ⟨rfl, Below.refl _ _⟩
  obtain ⟨g3, g4⟩ := hb rfl
  clear hb
  go_wp2_with fail
  refine (zzBuild_any _ a0 _ _ _ z1 _ _ _ z2 W1.out W2.out g3 g4).mono ?_
  rintro e w1 ⟨nb, tb, lb, v1, v2, rfl, hN, k1, hnb⟩
  rw [HL1.out, HL2.out] at hN
  have NN := Lib.hid hN; clear hN
  have K1 := Lib.hid k1; clear k1
  go_wp2_with fail
  cases I
  · refine (zzPretty_no _ _ nb tb lb a0 v1 v2 L1 L2 NN.out g0 HI.out).mono ?_
    rintro e w2 ⟨rfl, k2⟩
    have N2 := Lib.hid (NN.out.kept k2)
    have K2 := Lib.hid (K1.out.trans k2); clear k2
    have c1 := N2.out.c1
    have c2 := N2.out.c2
    have c4 := N2.out.c4
    have e1 := fun w => eqlN w 25 (.pointer (some ⟨lb, 0, none⟩))
    obtain ⟨fa, fn, fc, rfl⟩ := N2.out.hr.isSlice
    go_wp2_with fail
    refine (zzAsLit_lit _ _).mono ?_
    rintro e w' ⟨rfl, rfl⟩
    go_wp2_with fail
    refine (zzBlanksOf_any _ _ _ L2 N2.out.hr (by omega)).mono ?_
    rintro e w3 ⟨sa, sc, rfl, hrow, hfar, k3⟩
    have N3 := Lib.hid (N2.out.kept k3)
    have K3 := Lib.hid (K2.out.trans k3); clear k3
    have HROW := Lib.hid hrow; clear hrow
    have HFAR := Lib.hid hfar; clear hfar
    clear c1 c2 c4
    go_wp2_with fail
    refine (zzPretty_no _ _ nb tb lb a0 v1 _ L1 L2 N3.out g0 HI.out).mono ?_
    rintro e w4 ⟨rfl, k4⟩
    have N4 := Lib.hid (N3.out.kept k4)
    have K4 := Lib.hid (K3.out.trans k4)
    have R4 := Lib.hid (HROW.out.kept k4 (by simp)); clear k4
    have c1 := N4.out.c1
    have c2 := N4.out.c2
    have c4 := N4.out.c4
    have e2 := fun w => neqLit w lb
    go_wp2_with fail
    refine (zzAsLit_lit _ _).mono ?_
    rintro e w' ⟨rfl, rfl⟩
    go_wp2_with fail
    refine (zzSame_any _ _ _ L2 sa L2.length sc _ N4.out.hr R4.out rfl (by omega) (fun j x hx => by simp [hx])).mono ?_
    rintro e w5 ⟨rfl, k5⟩
    have K5 := Lib.hid (K4.out.trans k5); clear k5
    go_wp2_with fail
    go_ret
    exact ⟨rfl, K5.out.below (Nat.le_refl _) (by simp)⟩
  · refine (zzPretty_yes _ _ nb tb lb a0 v1 v2 L1 L2 NN.out g0 HI.out).mono ?_
    rintro e w2 ⟨rfl, ib, hI2, k2⟩
    have N2 := Lib.hid hI2; clear hI2
    have K2 := Lib.hid (K1.out.then k2 (by intro x hx; simp at hx; subst hx; exact Or.inr hnb)); clear k2
    have c1 := N2.out.c1
    have c2 := N2.out.c2
    have c4 := N2.out.c4
    have iv := N2.out.iv
    have e1 := fun w => eqlNN w
    obtain ⟨fa, fn, fc, rfl⟩ := N2.out.hr.isSlice
    go_wp2_with fail
    refine (zzAsLit_nil _).mono ?_
    rintro e w' ⟨rfl, rfl⟩
    go_wp2_with fail
    refine (zzBlanksOf_any _ _ _ L1 N2.out.hr (by omega)).mono ?_
    rintro e w3 ⟨sa, sc, rfl, hrow, hfar, k3⟩
    have N3 := Lib.hid (N2.out.kept k3)
    have K3 := Lib.hid (K2.out.trans k3); clear k3
    have HROW := Lib.hid hrow; clear hrow
    have HFAR := Lib.hid hfar; clear hfar
    clear c1 c2 c4 iv
    go_wp2_with fail
    refine (zzPretty_id _ _ nb tb ib a0 _ L1 N3.out).mono ?_
    rintro e w4 ⟨rfl, k4⟩
    have N4 := Lib.hid (N3.out.kept k4)
    have K4 := Lib.hid (K3.out.trans k4)
    have R4 := Lib.hid (HROW.out.kept k4 (by simp)); clear k4
    have c1 := N4.out.c1
    have c2 := N4.out.c2
    have c4 := N4.out.c4
    have iv := N4.out.iv
    go_wp2_with fail
    refine (zzAsLit_nil _).mono ?_
    rintro e w' ⟨rfl, rfl⟩
    go_wp2_with fail
    refine (zzSame_any _ _ _ L1 sa L1.length sc _ N4.out.hr R4.out rfl (by omega) (fun j x hx => by simp [hx])).mono ?_
    rintro e w5 ⟨rfl, k5⟩
    have K5 := Lib.hid (K4.out.trans k5); clear k5
    go_wp2_with fail
    go_ret
    exact ⟨rfl, K5.out.below (Nat.le_refl _) (by simp)⟩
end fnIndexIdempotent
end Go.Proofs.YtepipmjcfnncdaaFmt
