/- The walk of the law FnIndexLiteralToIdExact: it returns true at every text and two slices of numbers, and writes nothing that was there. -/
import Derived.Test.YtepipmjcfnncdaaFmtPIbP
import Derived.LaidEqlPtr
namespace Go.Proofs.YtepipmjcfnncdaaFmt
open Go.ChangeShapes Go.WideShapes Go.ChangeAt Go.RowKit

set_option maxRecDepth 100000 in
set_option maxHeartbeats 4000000 in
theorem zzPretty_no (w : World) (base nb tb lb : Nat) (val : ByteArray) (vl vr : Value) (ll lr : List FE) (h : IdxN w base nb tb lb val vl vr ll lr) (hv : val.size ≤ 1048576) (hi : identB val = false) :
    Calls Tryf.prog 16 #[.pointer (some ⟨nb, 0, none⟩)] w fun e w' => e = .returned (.tuple #[]) ∧ Kept [] w w' := by
  have H := Lib.hid h; clear h
  have HI := Lib.hid hi; clear hi
  go_enter Tryf.func16, Tryf.ntmps16
  go_wp2_with fail
  have ka : Kept [] w (w.alloc (.cells #[] 158)) := (Kept.refl [] w).alloc _
  have hpb : IsPass (w.alloc (.cells #[] 158)) w.heap.size := heap_alloc_new w _
  refine (pretty_no _ base nb tb lb w.heap.size _ val vl vr ll lr (H.out.kept ka) hpb hv HI.out).mono ?_
  rintro e w1 ⟨rfl, k1⟩
  have K1 := Lib.hid (ka.trans k1); clear k1 ka hpb
  go_wp2_with fail
  go_end0
  exact ⟨rfl, K1.out⟩

set_option maxRecDepth 100000 in
set_option maxHeartbeats 4000000 in
theorem zzPretty_id (w : World) (base nb tb ib : Nat) (val : ByteArray) (vr : Value) (lr : List FE) (h : IdxI w base nb tb ib val vr lr) :
    Calls Tryf.prog 16 #[.pointer (some ⟨nb, 0, none⟩)] w fun e w' => e = .returned (.tuple #[]) ∧ Kept [] w w' := by
  have H := Lib.hid h; clear h
  go_enter Tryf.func16, Tryf.ntmps16
  go_wp2_with fail
  have ka : Kept [] w (w.alloc (.cells #[] 158)) := (Kept.refl [] w).alloc _
  have hpb : IsPass (w.alloc (.cells #[] 158)) w.heap.size := heap_alloc_new w _
  refine (pretty_id _ base nb tb ib w.heap.size _ val vr lr (H.out.kept ka) hpb).mono ?_
  rintro e w1 ⟨rfl, k1⟩
  have K1 := Lib.hid (ka.trans k1); clear k1 ka hpb
  go_wp2_with fail
  go_end0
  exact ⟨rfl, K1.out⟩

set_option maxRecDepth 100000 in
set_option maxHeartbeats 4000000 in
theorem zzPretty_yes (w : World) (base nb tb lb : Nat) (val : ByteArray) (vl vr : Value) (ll lr : List FE) (h : IdxN w base nb tb lb val vl vr ll lr) (hv : val.size ≤ 1048576) (hi : identB val = true) :
    Calls Tryf.prog 16 #[.pointer (some ⟨nb, 0, none⟩)] w fun e w' => e = .returned (.tuple #[]) ∧ ∃ ib, IdxI w' base nb tb ib val vl ll ∧ Kept [nb] w w' := by
  have H := Lib.hid h; clear h
  have HI := Lib.hid hi; clear hi
  go_enter Tryf.func16, Tryf.ntmps16
  go_wp2_with fail
  have ka : Kept [] w (w.alloc (.cells #[] 158)) := (Kept.refl [] w).alloc _
  have hpb : IsPass (w.alloc (.cells #[] 158)) w.heap.size := heap_alloc_new w _
  have hn : nb < w.heap.size := World.block_lt_of_cell? w ⟨nb, 0, none⟩ H.out.c0
  refine (pretty_yes _ base nb tb lb w.heap.size _ val vl vr ll lr (H.out.kept ka) hpb (by omega) hv HI.out).mono ?_
  rintro e w1 ⟨rfl, ib, hI, k1⟩
  have II := Lib.hid hI; clear hI
  have K1 := Lib.hid ((ka.mono (by simp)).trans k1); clear k1 ka hpb
  go_wp2_with fail
  go_end0
  exact ⟨rfl, ib, II.out, K1.out⟩

set_option maxRecDepth 100000 in
theorem zzAsLit_lit (w : World) (x : Value) : Calls Tryf.prog 19 #[.iface 25 x] w fun e w' => e = .returned x ∧ w = w' := by
  have ta := fun w : World => ta_yes_LiteralString x 31 w
  go_enter Tryf.func19, Tryf.ntmps19
  go_wp2_with fail
  go_ret
  exact ⟨rfl, rfl⟩

set_option maxRecDepth 100000 in
theorem eqlN (w : World) (t : TypeId) (x : Value) : (binOp .eql 31 (.iface t x) .nilIface).run Tryf.prog w = .ok (.bool false) w := by kernel_rfl
set_option maxRecDepth 100000 in
theorem eqlNN (w : World) : (binOp .eql 31 .nilIface .nilIface).run Tryf.prog w = .ok (.bool true) w := by kernel_rfl

theorem eqlLit (w : World) (x : Nat) : (binOp .eql 25 (.pointer (some ⟨x, 0, none⟩)) (.pointer (some ⟨x, 0, none⟩))).run Tryf.prog w = .ok (.bool true) w := by
  obtain ⟨j, hj⟩ : ∃ j, Tryf.prog.info? 53 = some j := Option.isSome_iff_exists.1 (by kernel_rfl)
  exact run_eql_ptr_same w ⟨x, 0, none⟩ (by kernel_rfl) hj
theorem neqLit (w : World) (x : Nat) : (binOp .neq 25 (.pointer (some ⟨x, 0, none⟩)) (.pointer (some ⟨x, 0, none⟩))).run Tryf.prog w = .ok (.bool false) w := by
  obtain ⟨j, hj⟩ : ∃ j, Tryf.prog.info? 53 = some j := Option.isSome_iff_exists.1 (by kernel_rfl)
  have hp : Tryf.prog.underlying 25 = some (.pointer 53) := by kernel_rfl
  have h : ∀ d : Nat, (Op.equalIn (d + 1) 25 (.pointer (some ⟨x, 0, none⟩)) (.pointer (some ⟨x, 0, none⟩))).run Tryf.prog w = .ok true w := fun d => by
    simp [Op.equalIn, run_underlying hp, sizeOf, typeInfo, hj, run_sameAddr_same]
  simp only [binOp]
  simp [Op.equal, Op.maxDepth, h 9999]

theorem bfe_same (z : List Int) (n : Nat) (hz : n ≤ z.length) (j : Nat) (x : FE) (hx : ((z.take n).map bfe)[j]? = some x) : x.b = z.getD j 0 := by
  rw [List.getElem?_map, List.getElem?_take] at hx
  by_cases hj : j < n
  · rw [if_pos hj, List.getElem?_eq_getElem (by omega)] at hx
    rw [List.getD_eq_getElem?_getD, List.getElem?_eq_getElem (show j < z.length by omega)]
    simp at hx
    subst hx
    rfl
  · rw [if_neg hj] at hx
    simp at hx

set_option maxHeartbeats 1000000 in
theorem zzBytes_PIl (w : World) (s : ByteArray) (a1 : Option Addr) (n1 cap1 : Nat) (a2 : Option Addr) (n2 cap2 : Nat) (h0 : s.size ≤ 9223372036854775807) (h1 : n1 ≤ 9223372036854775807) (h2 : n2 ≤ 9223372036854775807) :
    Calls Tryf.prog 13 #[.string s, .slice a1 n1 cap1, .slice a2 n2 cap2] w (Bnd true (s.size ≤ 1048576 ∧ n1 ≤ 1048576 ∧ n2 ≤ 1048576) w) := by
  go_enter Tryf.func13, Tryf.ntmps13
  go_wp2
  all_goals
    go_ret
    exact ⟨_, rfl, (fun h => by first | (cases h; done) | exact ⟨by omega, by omega, by omega⟩), rfl⟩

namespace fnIndexLiteralToIdExact
set_option maxRecDepth 100000 in
set_option maxHeartbeats 4000000 in
theorem walk (a0 : ByteArray) (a1 : Option Addr) (len1 cap1 : Nat) (z1 : List Int) (a2 : Option Addr) (len2 cap2 : Nat) (z2 : List Int) (w : World) (w0 : a0.size ≤ maxLen) (w1 : IsRow .i64 w a1 len1 cap1 z1) (w2 : IsRow .i64 w a2 len2 cap2 z2) :
    Calls Tryf.prog 3 #[.string a0, .slice a1 len1 cap1, .slice a2 len2 cap2] w fun e w' => e = .returned (.bool true) ∧ Below w.heap.size w w' := by
  obtain ⟨hlc1, hcm1, hz1, -, -⟩ := w1.open
  obtain ⟨hlc2, hcm2, hz2, -, -⟩ := w2.open
  unfold maxLen at hcm1 hcm2 w0
  have W1 := Lib.hid w1; clear w1
  have W2 := Lib.hid w2; clear w2
  obtain ⟨L1, hL1⟩ : ∃ L, (z1.take len1).map bfe = L := ⟨_, rfl⟩
  obtain ⟨L2, hL2⟩ : ∃ L, (z2.take len2).map bfe = L := ⟨_, rfl⟩
  have hN1 : L1.length = len1 := by rw [← hL1, List.length_map, List.length_take]; omega
  have hN2 : L2.length = len2 := by rw [← hL2, List.length_map, List.length_take]; omega
  have S1 : ∀ (j : Nat) x, L1[j]? = some x → x.b = z1.getD j 0 := hL1 ▸ bfe_same z1 len1 (by omega)
  have S2 : ∀ (j : Nat) x, L2[j]? = some x → x.b = z2.getD j 0 := hL2 ▸ bfe_same z2 len2 (by omega)
  have HL1 := Lib.hid hL1; clear hL1
  have HL2 := Lib.hid hL2; clear hL2
  have HN1 := Lib.hid hN1; clear hN1
  have HN2 := Lib.hid hN2; clear hN2
  have HS1 := Lib.hid S1; clear S1
  have HS2 := Lib.hid S2; clear S2
  clear hz1 hz2
  obtain ⟨I, hI⟩ : ∃ I, identB a0 = I := ⟨_, rfl⟩
  have HI := Lib.hid hI; clear hI
  have hb1 : len1 ≤ 9223372036854775807 := by omega
  have hb2 : len2 ≤ 9223372036854775807 := by omega
  go_enter Tryf.func3, Tryf.ntmps3
  go_wp2_with fail
  refine (zzBytes_PIl _ _ _ _ _ _ _ _ w0 hb1 hb2).mono ?_
  rintro e w' ⟨b, rfl, hb, rfl⟩
  cases b
  · clear hb
    go_wp2_with fail
    go_ret
    exact ⟨rfl, Below.refl _ _⟩
  obtain ⟨g0, g1, g2⟩ := hb rfl
  clear hb
  go_wp2_with fail
  refine (zzGuards_any _ _ _ _ _ _ _ _ g0 g1 g2).mono ?_
  rintro e w' ⟨b, rfl, hb, rfl⟩
  cases b
  rotate_left 1
  · clear hb
    go_wp2_with fail
    go_ret
    exact ⟨rfl, Below.refl _ _⟩
  obtain ⟨g3, g4⟩ := hb rfl
  clear hb
  go_wp2_with fail
  refine (zzBuild_any _ a0 _ _ _ z1 _ _ _ z2 W1.out W2.out g3 g4).mono ?_
  rintro e w1 ⟨nb, tb, lb, v1, v2, rfl, hN, k1, hnb⟩
  rw [HL1.out, HL2.out] at hN
  have NN := Lib.hid hN; clear hN
  have K1 := Lib.hid k1; clear k1
  go_wp2_with fail
  cases I
  · refine (zzPretty_no _ _ nb tb lb a0 v1 v2 L1 L2 NN.out g0 HI.out).mono ?_
    rintro e w2 ⟨rfl, k2⟩
    have N2 := Lib.hid (NN.out.kept k2)
    have K2 := Lib.hid (K1.out.trans k2); clear k2
    go_wp2_with fail
    refine (zzIsIdent_any _ a0 g0).mono ?_
    rintro e w' ⟨rfl, rfl⟩
    rw [HI.out]
    have c1 := N2.out.c1
    have c2 := N2.out.c2
    have c4 := N2.out.c4
    have lv := N2.out.lv
    have e1 := fun w => neqN w 25 (.pointer (some ⟨lb, 0, none⟩))
    have e2 := fun w => eqlLit w lb
    obtain ⟨fa, fn, fc, rfl⟩ := N2.out.hr.isSlice
    go_wp2_with fail
    refine (zzAsLit_lit _ _).mono ?_
    rintro e w' ⟨rfl, rfl⟩
    go_wp2_with fail
    refine (zzSame_any _ _ _ L2 a2 len2 cap2 z2 N2.out.hr (W2.out.intRow.kept K2.out (by simp)) HN2.out (by omega) HS2.out).mono ?_
    rintro e w3 ⟨rfl, k3⟩
    have K3 := Lib.hid (K2.out.trans k3); clear k3
    go_wp2_with fail
    go_ret
    exact ⟨rfl, K3.out.below (Nat.le_refl _) (by simp)⟩
  · refine (zzPretty_yes _ _ nb tb lb a0 v1 v2 L1 L2 NN.out g0 HI.out).mono ?_
    rintro e w2 ⟨rfl, ib, hI2, k2⟩
    have N2 := Lib.hid hI2; clear hI2
    have K2 := Lib.hid (K1.out.then k2 (by intro x hx; simp at hx; subst hx; exact Or.inr hnb)); clear k2
    go_wp2_with fail
    refine (zzIsIdent_any _ a0 g0).mono ?_
    rintro e w' ⟨rfl, rfl⟩
    rw [HI.out]
    have c1 := N2.out.c1
    have c2 := N2.out.c2
    have c4 := N2.out.c4
    have iv := N2.out.iv
    have e1 := fun w => eqlNN w
    obtain ⟨fa, fn, fc, rfl⟩ := N2.out.hr.isSlice
    go_wp2_with fail
    refine (zzSame_any _ _ _ L1 a1 len1 cap1 z1 N2.out.hr (W1.out.intRow.kept K2.out (by simp)) HN1.out (by omega) HS1.out).mono ?_
    rintro e w3 ⟨rfl, k3⟩
    have K3 := Lib.hid (K2.out.trans k3); clear k3
    go_wp2_with fail
    go_ret
    exact ⟨rfl, K3.out.below (Nat.le_refl _) (by simp)⟩
end fnIndexLiteralToIdExact
end Go.Proofs.YtepipmjcfnncdaaFmt
