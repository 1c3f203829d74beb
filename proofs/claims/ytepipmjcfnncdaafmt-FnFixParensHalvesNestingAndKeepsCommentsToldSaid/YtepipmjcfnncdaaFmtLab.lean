/- The contracts of n008_102's itoa and label: a text that depends on the number alone. -/
import Derived.Test.YtepipmjcfnncdaaFmtNode
import Derived.WalkSpells
import Derived.WalkLawsBesides
import Derived.Laws.IdiomStrings
namespace Go.Proofs.YtepipmjcfnncdaaFmt
open Go.ChangeShapes Go.WideShapes Go.ChangeAt Go.RowKit

/-- Bytes told by numbers. -/
def bstr (ns : List Int) : ByteArray := ns.foldl (fun r n => r.push (UInt8.ofNat n.toNat)) ByteArray.empty

theorem conv_tail (w : World) (C : Array Value) (o n : Nat) (ns : List Int) (hn : ns.length = n) (hC : ∀ j, j < n → C[o + j]? = (ns.map (Value.int .u8))[j]?) :
    (convert 241 9 (.slice (some ⟨w.heap.size, o, none⟩) n n)).run Tryf.prog (w.alloc (.cells C 240)) = .ok (.string (bstr ns)) (w.alloc (.cells C 240)) := by
  rw [run_convert_bytes_string (P := Tryf.prog) _ 241 9 5 _ _ _ Tryf.underlying241 Tryf.underlying5 Tryf.underlying9]
  have hl := run_loadCells_list (P := Tryf.prog) (w.alloc (.cells C 240)) ⟨w.heap.size, o, none⟩ (ns.map (Value.int .u8)) (fun j v hj => by
    have hj' : j < n := by
      have := (List.getElem?_eq_some_iff.1 hj).1
      simpa [hn] using this
    rw [add_off]
    exact (cell_of_block (heap_alloc_new w (.cells C 240)) (o + j)).trans ((hC j hj').trans hj))
  rw [List.length_map, hn] at hl
  exact run_bytesToString _ _ n n ns hl

set_option maxRecDepth 100000 in
set_option maxHeartbeats 4000000 in
theorem itoa_1 (k : Int) (h0 : 1 ≤ k) (h1 : k < 10) : ∃ s : ByteArray, s.size = 1 ∧ ∀ w : World, Calls Tryf.prog 83 #[.int .i64 k] w fun e w' => e = .returned (.string s) ∧ Kept [] w w' := by
  obtain ⟨r0, hr0⟩ : ∃ r, k.tmod 10 = r := ⟨_, rfl⟩
  obtain ⟨q0, hq0⟩ : ∃ q, k.tdiv 10 = q := ⟨_, rfl⟩
  have a0 : 0 ≤ r0 ∧ r0 < 10 ∧ k = 10 * q0 + r0 := by rw [← hr0, ← hq0, Int.tmod_eq_emod_of_nonneg (by omega), Int.tdiv_eq_ediv_of_nonneg (by omega)]; omega
  obtain rfl : q0 = 0 := by omega
  obtain ⟨b0, c0, -⟩ := a0
  refine ⟨bstr [48 + r0], rfl, fun w => ?_⟩
  have hc := conv_tail w #[.int .u8 0, .int .u8 0, .int .u8 0, .int .u8 0, .int .u8 0, .int .u8 0, .int .u8 0, .int .u8 0, .int .u8 0, .int .u8 0, .int .u8 0, .int .u8 0, .int .u8 0, .int .u8 0, .int .u8 0, .int .u8 0, .int .u8 0, .int .u8 0, .int .u8 0, .int .u8 0, .int .u8 0, .int .u8 0, .int .u8 0, .int .u8 (48 + r0)] 23 1 [48 + r0] rfl (fun j hj => by match j, hj with | 0, _ => rfl)
  go_enter Tryf.func83, Tryf.ntmps83
  go_wp2_with fail
  refine wp_loop_rounds 2 ?_
  rw [rounds_succ]
  go_wp2_with fail
  rw [rounds_succ]
  go_wp2_with fail
  go_ret
  exact ⟨rfl, (Kept.refl [] w).alloc _⟩

set_option maxRecDepth 100000 in
set_option maxHeartbeats 4000000 in
theorem itoa_2 (k : Int) (h0 : 10 ≤ k) (h1 : k < 100) : ∃ s : ByteArray, s.size = 2 ∧ ∀ w : World, Calls Tryf.prog 83 #[.int .i64 k] w fun e w' => e = .returned (.string s) ∧ Kept [] w w' := by
  obtain ⟨r0, hr0⟩ : ∃ r, k.tmod 10 = r := ⟨_, rfl⟩
  obtain ⟨q0, hq0⟩ : ∃ q, k.tdiv 10 = q := ⟨_, rfl⟩
  have a0 : 0 ≤ r0 ∧ r0 < 10 ∧ k = 10 * q0 + r0 := by rw [← hr0, ← hq0, Int.tmod_eq_emod_of_nonneg (by omega), Int.tdiv_eq_ediv_of_nonneg (by omega)]; omega
  obtain ⟨r1, hr1⟩ : ∃ r, q0.tmod 10 = r := ⟨_, rfl⟩
  obtain ⟨q1, hq1⟩ : ∃ q, q0.tdiv 10 = q := ⟨_, rfl⟩
  have a1 : 0 ≤ r1 ∧ r1 < 10 ∧ q0 = 10 * q1 + r1 := by rw [← hr1, ← hq1, Int.tmod_eq_emod_of_nonneg (by omega), Int.tdiv_eq_ediv_of_nonneg (by omega)]; omega
  have p0 : 0 < q0 := by omega
  have u0 : wrap64 q0 = q0 := by unfold wrap64; omega
  obtain rfl : q1 = 0 := by omega
  obtain ⟨b0, c0, -⟩ := a0
  obtain ⟨b1, c1, -⟩ := a1
  refine ⟨bstr [48 + r1, 48 + r0], rfl, fun w => ?_⟩
  have hc := conv_tail w #[.int .u8 0, .int .u8 0, .int .u8 0, .int .u8 0, .int .u8 0, .int .u8 0, .int .u8 0, .int .u8 0, .int .u8 0, .int .u8 0, .int .u8 0, .int .u8 0, .int .u8 0, .int .u8 0, .int .u8 0, .int .u8 0, .int .u8 0, .int .u8 0, .int .u8 0, .int .u8 0, .int .u8 0, .int .u8 0, .int .u8 (48 + r1), .int .u8 (48 + r0)] 22 2 [48 + r1, 48 + r0] rfl (fun j hj => by match j, hj with | 0, _ => rfl | 1, _ => rfl)
  go_enter Tryf.func83, Tryf.ntmps83
  go_wp2_with fail
  refine wp_loop_rounds 3 ?_
  rw [rounds_succ]
  go_wp2_with fail
  rw [rounds_succ]
  go_wp2_with fail
  rw [rounds_succ]
  go_wp2_with fail
  go_ret
  exact ⟨rfl, (Kept.refl [] w).alloc _⟩

set_option maxRecDepth 100000 in
set_option maxHeartbeats 4000000 in
theorem itoa_3 (k : Int) (h0 : 100 ≤ k) (h1 : k < 1000) : ∃ s : ByteArray, s.size = 3 ∧ ∀ w : World, Calls Tryf.prog 83 #[.int .i64 k] w fun e w' => e = .returned (.string s) ∧ Kept [] w w' := by
  obtain ⟨r0, hr0⟩ : ∃ r, k.tmod 10 = r := ⟨_, rfl⟩
  obtain ⟨q0, hq0⟩ : ∃ q, k.tdiv 10 = q := ⟨_, rfl⟩
  have a0 : 0 ≤ r0 ∧ r0 < 10 ∧ k = 10 * q0 + r0 := by rw [← hr0, ← hq0, Int.tmod_eq_emod_of_nonneg (by omega), Int.tdiv_eq_ediv_of_nonneg (by omega)]; omega
  obtain ⟨r1, hr1⟩ : ∃ r, q0.tmod 10 = r := ⟨_, rfl⟩
  obtain ⟨q1, hq1⟩ : ∃ q, q0.tdiv 10 = q := ⟨_, rfl⟩
  have a1 : 0 ≤ r1 ∧ r1 < 10 ∧ q0 = 10 * q1 + r1 := by rw [← hr1, ← hq1, Int.tmod_eq_emod_of_nonneg (by omega), Int.tdiv_eq_ediv_of_nonneg (by omega)]; omega
  obtain ⟨r2, hr2⟩ : ∃ r, q1.tmod 10 = r := ⟨_, rfl⟩
  obtain ⟨q2, hq2⟩ : ∃ q, q1.tdiv 10 = q := ⟨_, rfl⟩
  have a2 : 0 ≤ r2 ∧ r2 < 10 ∧ q1 = 10 * q2 + r2 := by rw [← hr2, ← hq2, Int.tmod_eq_emod_of_nonneg (by omega), Int.tdiv_eq_ediv_of_nonneg (by omega)]; omega
  have p0 : 0 < q0 := by omega
  have u0 : wrap64 q0 = q0 := by unfold wrap64; omega
  have p1 : 0 < q1 := by omega
  have u1 : wrap64 q1 = q1 := by unfold wrap64; omega
  obtain rfl : q2 = 0 := by omega
  obtain ⟨b0, c0, -⟩ := a0
  obtain ⟨b1, c1, -⟩ := a1
  obtain ⟨b2, c2, -⟩ := a2
  refine ⟨bstr [48 + r2, 48 + r1, 48 + r0], rfl, fun w => ?_⟩
  have hc := conv_tail w #[.int .u8 0, .int .u8 0, .int .u8 0, .int .u8 0, .int .u8 0, .int .u8 0, .int .u8 0, .int .u8 0, .int .u8 0, .int .u8 0, .int .u8 0, .int .u8 0, .int .u8 0, .int .u8 0, .int .u8 0, .int .u8 0, .int .u8 0, .int .u8 0, .int .u8 0, .int .u8 0, .int .u8 0, .int .u8 (48 + r2), .int .u8 (48 + r1), .int .u8 (48 + r0)] 21 3 [48 + r2, 48 + r1, 48 + r0] rfl (fun j hj => by match j, hj with | 0, _ => rfl | 1, _ => rfl | 2, _ => rfl)
  go_enter Tryf.func83, Tryf.ntmps83
  go_wp2_with fail
  refine wp_loop_rounds 4 ?_
  rw [rounds_succ]
  go_wp2_with fail
  rw [rounds_succ]
  go_wp2_with fail
  rw [rounds_succ]
  go_wp2_with fail
  rw [rounds_succ]
  go_wp2_with fail
  go_ret
  exact ⟨rfl, (Kept.refl [] w).alloc _⟩

set_option maxRecDepth 100000 in
set_option maxHeartbeats 4000000 in
theorem itoa_4 (k : Int) (h0 : 1000 ≤ k) (h1 : k < 10000) : ∃ s : ByteArray, s.size = 4 ∧ ∀ w : World, Calls Tryf.prog 83 #[.int .i64 k] w fun e w' => e = .returned (.string s) ∧ Kept [] w w' := by
  obtain ⟨r0, hr0⟩ : ∃ r, k.tmod 10 = r := ⟨_, rfl⟩
  obtain ⟨q0, hq0⟩ : ∃ q, k.tdiv 10 = q := ⟨_, rfl⟩
  have a0 : 0 ≤ r0 ∧ r0 < 10 ∧ k = 10 * q0 + r0 := by rw [← hr0, ← hq0, Int.tmod_eq_emod_of_nonneg (by omega), Int.tdiv_eq_ediv_of_nonneg (by omega)]; omega
  obtain ⟨r1, hr1⟩ : ∃ r, q0.tmod 10 = r := ⟨_, rfl⟩
  obtain ⟨q1, hq1⟩ : ∃ q, q0.tdiv 10 = q := ⟨_, rfl⟩
  have a1 : 0 ≤ r1 ∧ r1 < 10 ∧ q0 = 10 * q1 + r1 := by rw [← hr1, ← hq1, Int.tmod_eq_emod_of_nonneg (by omega), Int.tdiv_eq_ediv_of_nonneg (by omega)]; omega
  obtain ⟨r2, hr2⟩ : ∃ r, q1.tmod 10 = r := ⟨_, rfl⟩
  obtain ⟨q2, hq2⟩ : ∃ q, q1.tdiv 10 = q := ⟨_, rfl⟩
  have a2 : 0 ≤ r2 ∧ r2 < 10 ∧ q1 = 10 * q2 + r2 := by rw [← hr2, ← hq2, Int.tmod_eq_emod_of_nonneg (by omega), Int.tdiv_eq_ediv_of_nonneg (by omega)]; omega
  obtain ⟨r3, hr3⟩ : ∃ r, q2.tmod 10 = r := ⟨_, rfl⟩
  obtain ⟨q3, hq3⟩ : ∃ q, q2.tdiv 10 = q := ⟨_, rfl⟩
  have a3 : 0 ≤ r3 ∧ r3 < 10 ∧ q2 = 10 * q3 + r3 := by rw [← hr3, ← hq3, Int.tmod_eq_emod_of_nonneg (by omega), Int.tdiv_eq_ediv_of_nonneg (by omega)]; omega
  have p0 : 0 < q0 := by omega
  have u0 : wrap64 q0 = q0 := by unfold wrap64; omega
  have p1 : 0 < q1 := by omega
  have u1 : wrap64 q1 = q1 := by unfold wrap64; omega
  have p2 : 0 < q2 := by omega
  have u2 : wrap64 q2 = q2 := by unfold wrap64; omega
  obtain rfl : q3 = 0 := by omega
  obtain ⟨b0, c0, -⟩ := a0
  obtain ⟨b1, c1, -⟩ := a1
  obtain ⟨b2, c2, -⟩ := a2
  obtain ⟨b3, c3, -⟩ := a3
  refine ⟨bstr [48 + r3, 48 + r2, 48 + r1, 48 + r0], rfl, fun w => ?_⟩
  have hc := conv_tail w #[.int .u8 0, .int .u8 0, .int .u8 0, .int .u8 0, .int .u8 0, .int .u8 0, .int .u8 0, .int .u8 0, .int .u8 0, .int .u8 0, .int .u8 0, .int .u8 0, .int .u8 0, .int .u8 0, .int .u8 0, .int .u8 0, .int .u8 0, .int .u8 0, .int .u8 0, .int .u8 0, .int .u8 (48 + r3), .int .u8 (48 + r2), .int .u8 (48 + r1), .int .u8 (48 + r0)] 20 4 [48 + r3, 48 + r2, 48 + r1, 48 + r0] rfl (fun j hj => by match j, hj with | 0, _ => rfl | 1, _ => rfl | 2, _ => rfl | 3, _ => rfl)
  go_enter Tryf.func83, Tryf.ntmps83
  go_wp2_with fail
  refine wp_loop_rounds 5 ?_
  rw [rounds_succ]
  go_wp2_with fail
  rw [rounds_succ]
  go_wp2_with fail
  rw [rounds_succ]
  go_wp2_with fail
  rw [rounds_succ]
  go_wp2_with fail
  rw [rounds_succ]
  go_wp2_with fail
  go_ret
  exact ⟨rfl, (Kept.refl [] w).alloc _⟩

theorem itoa_any (k : Int) (h0 : 1 ≤ k) (h1 : k ≤ 4096) : ∃ s : ByteArray, s.size ≤ 4 ∧ ∀ w : World, Calls Tryf.prog 83 #[.int .i64 k] w fun e w' => e = .returned (.string s) ∧ Kept [] w w' := by
  by_cases h2 : k < 10
  · obtain ⟨s, hs, h⟩ := itoa_1 k h0 h2
    exact ⟨s, by omega, h⟩
  by_cases h3 : k < 100
  · obtain ⟨s, hs, h⟩ := itoa_2 k (by omega) h3
    exact ⟨s, by omega, h⟩
  by_cases h4 : k < 1000
  · obtain ⟨s, hs, h⟩ := itoa_3 k (by omega) h4
    exact ⟨s, by omega, h⟩
  · obtain ⟨s, hs, h⟩ := itoa_4 k (by omega) (by omega)
    exact ⟨s, by omega, h⟩

/-- The text of a label, for one letter c. -/
theorem label_ex (c : UInt8) (k : Int) (h0 : 1 ≤ k) (h1 : k ≤ 4096) : ∃ s : ByteArray, s.size ≤ 1048576 ∧ ∀ w : World, Calls Tryf.prog 65 #[.string ⟨#[c]⟩, .int .i64 k] w fun e w' => e = .returned (.string s) ∧ Kept [] w w' := by
  obtain ⟨t, ht, h⟩ := itoa_any k h0 h1
  have hsz : (⟨#[c]⟩ : ByteArray).size = 1 := rfl
  refine ⟨⟨#[c]⟩ ++ t, by rw [ByteArray.size_append]; omega, fun w => ?_⟩
  go_enter Tryf.func65, Tryf.ntmps65
  go_wp2_with fail
  refine (h _).mono ?_
  rintro e w1 ⟨rfl, k1⟩
  have K1 := Lib.hid k1; clear k1
  go_wp2_with fail
  go_ret
  exact ⟨rfl, K1.out⟩

open Classical in
/-- The label of level k. -/
noncomputable def lab (c : UInt8) (k : Int) : ByteArray := if h : 1 ≤ k ∧ k ≤ 4096 then (label_ex c k h.1 h.2).choose else ByteArray.empty
theorem label_any (w : World) (c : UInt8) (k : Int) (h0 : 1 ≤ k) (h1 : k ≤ 4096) : Calls Tryf.prog 65 #[.string ⟨#[c]⟩, .int .i64 k] w fun e w' => e = .returned (.string (lab c k)) ∧ Kept [] w w' := by
  have h := (label_ex c k h0 h1).choose_spec.2 w
  unfold lab
  rw [dif_pos ⟨h0, h1⟩]
  exact h
end Go.Proofs.YtepipmjcfnncdaaFmt
