/- The contract of the pass's Array at an array of leaves. -/
import Derived.Test.YtnfhhmadkiogbaaFmtForS
namespace Go.Proofs.YtnfhhmadkiogbaaFmt
open Go.ChangeShapes Go.WideShapes Go.ChangeAt Go.RowKit

/-- The leaves and comma fodders of an array's elements, which lie at eb. -/
def Leaves (w : World) (base eb n : Nat) : Prop :=
  ∀ i, i < n → ∃ xb vx lx v l, w.cell? ⟨eb, i * 2, none⟩ = some (.iface 27 (.pointer (some ⟨xb, 0, none⟩))) ∧ w.cell? ⟨eb, i * 2 + 1, none⟩ = some v ∧ Fod w base v l ∧
    w.cell? ⟨xb, 0, none⟩ = some vx ∧ w.frozen? ⟨xb, 0, none⟩ = false ∧ Fod w base vx lx

set_option maxRecDepth 100000 in
set_option maxHeartbeats 4000000 in
theorem base_Array (w : World) (base : Nat) (r : Value) (pb nb eb n cap : Nat) (hpb : IsPass w pb) (ctx : Value) (v1 : Value) (l1 : List FE) (hL : Leaves w base eb n) (hnc : n ≤ cap) (hcap : cap ≤ 4611686018427387904)
    (c0 : w.cell? ⟨nb, 0, none⟩ = some (.slice (some ⟨eb, 0, none⟩) n cap)) (c1 : w.cell? ⟨nb, 1, none⟩ = some v1) (h1 : Fod w base v1 l1) :
    Calls Tryf.prog 15 #[r, .iface 61 (.pointer (some ⟨pb, 0, none⟩)), .pointer (some ⟨nb, 0, none⟩), ctx] w fun e w' => e = .returned (.tuple #[]) ∧ Kept [] w w' := by
  have HPB := Lib.hid hpb; clear hpb
  have HL := Lib.hid hL; clear hL
  have H1 := Lib.hid h1; clear h1
  have C1 := Lib.hid c1; clear c1
  have hn1 := nilA_Fodder pb
  have hn2 := nilA_Visit pb
  go_enter Tryf.func15, Tryf.ntmps15
  go_wp2_with fail
  go_loopw [14] (fun i wr => ∃ k : Nat, k ≤ n ∧ i = .int .i64 k ∧ Kept [] w wr) (fun i _ => n - (intOf i).toNat)
  case atStart => exact ⟨0, Nat.zero_le _, rfl, Kept.refl _ _⟩
  case round =>
    obtain ⟨k, hk, rfl, hb⟩ := hrel
    have d0 := hb.cell c0 (by simp)
    have HB := Lib.hid hb; clear hb
    by_cases hlt : k < n
    · obtain ⟨xb, vx, lx, v, l, e1, e2, e3, e4, e5, e6⟩ := HL.out k hlt
      have E1 := Lib.hid e1; clear e1
      have E2 := Lib.hid e2; clear e2
      have E3 := Lib.hid e3; clear e3
      have E4 := Lib.hid e4; clear e4
      have E6 := Lib.hid e6; clear e6
      have i1 : (0 : Int) ≤ (k : Int) := by omega
      have i2 : (k : Int) < (n : Int) := by omega
      have hm := meth_Visit pb wr.drew (HPB.out.kept HB.out.drew (by simp))
      go_wp2_with fail
      go_still_tail 13, (by kernel_rfl)
      go_wp2_with fail
      have q := HB.out.drew
      refine (visit_LiteralNull _ base _ pb eb (k * 2) xb (HPB.out.kept q (by simp)) _ vx lx (E6.out.kept q (by simp)) (q.cell E1.out (by simp)) (q.cell E4.out (by simp)) ((q.frozen (World.block_lt_of_cell? w _ E4.out) (by simp)).trans e5)).mono ?_
      rintro e w1 ⟨rfl, k1⟩
      have q1 := q.trans k1
      have d1 := q1.cell c0 (by simp)
      have hm1 := meth_Fodder pb w1.drew (HPB.out.kept q1.drew (by simp))
      have Q1 := Lib.hid q1; clear q1 q k1 hm d0
      go_wp2_with fail
      go_still_tail 13, (by kernel_rfl)
      go_wp2_with fail
      have q := Q1.out.drew
      refine (passFodder _ base _ pb eb (k * 2 + 1) (HPB.out.kept q (by simp)) _ v l (E3.out.kept q (by simp)) (q.cell E2.out (by simp))).mono ?_
      rintro e w2 ⟨rfl, k2⟩
      have Q2 := Lib.hid (q.trans k2); clear q k2 hm1
      go_wp2_with fail
      go_roundw
      case rel => exact ⟨k + 1, by omega, by go_num, Q2.out⟩
      case measure => simp [intOf]; omega
    · obtain rfl : k = n := by omega
      have hm1 := meth_Fodder pb wr.drew (HPB.out.kept HB.out.drew (by simp))
      go_wp2_with fail
      go_still_tail 9, (by kernel_rfl)
      go_wp2_with fail
      have q := HB.out.drew
      refine (passFodder _ base _ pb nb 1 (HPB.out.kept q (by simp)) _ v1 l1 (H1.out.kept q (by simp)) (q.cell C1.out (by simp))).mono ?_
      rintro e w2 ⟨rfl, k2⟩
      have Q2 := Lib.hid (q.trans k2); clear q k2 hm1
      go_wp2_with fail
      go_end0
      exact ⟨rfl, Q2.out⟩

end Go.Proofs.YtnfhhmadkiogbaaFmt
