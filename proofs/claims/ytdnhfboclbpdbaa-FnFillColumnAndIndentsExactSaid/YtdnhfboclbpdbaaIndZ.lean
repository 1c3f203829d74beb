/- The contracts of the exports of the indent rules. -/
import Derived.Test.YtdnhfboclbpdbaaInd
namespace Go.Proofs.Ytdnhfboclbpdbaa
open Go.ChangeShapes Go.WideShapes Go.ChangeAt Go.RowKit

set_option maxHeartbeats 400000 in
theorem ZZalign_n008_127_any (w : World) (base : Nat) (p : Option Addr) (v : Value) (l : List FE) (x y u : Int) (h : Fod w base v l) :
    Calls Try.prog 17 #[.pointer p, v, .int .i64 x, .int .i64 y, .int .i64 u] w (Two w (selI (sameL l) x x) (selI (sameL l) u y)) := by
  have H := Lib.hid h; clear h
  go_enter Try.func17, Try.ntmps17
  go_wp2_with fail
  refine (align_any _ base _ _ l _ _ _ H.out).mono ?_
  rintro e w1 ⟨rfl, hb⟩
  go_wp2_with fail
  go_quiet (fail)
  go_wp2_with fail
  go_ret2
  exact ⟨rfl, (hb.alloc hb.size _).trans (Kept.below ((Kept.refl [] _).drewN _) (by simp; exact Nat.le_trans hb.size (by simp)) (by simp))⟩

set_option maxHeartbeats 400000 in
theorem ZZalignStrong_n008_127_any (w : World) (base : Nat) (p : Option Addr) (v : Value) (l : List FE) (x y u : Int) (h : Fod w base v l) :
    Calls Try.prog 29 #[.pointer p, v, .int .i64 x, .int .i64 y, .int .i64 u] w (Two w (selI (sameL l) u x) (selI (sameL l) u y)) := by
  have H := Lib.hid h; clear h
  go_enter Try.func29, Try.ntmps29
  go_wp2_with fail
  refine (alignStrong_any _ base _ _ l _ _ _ H.out).mono ?_
  rintro e w1 ⟨rfl, hb⟩
  go_wp2_with fail
  go_quiet (fail)
  go_wp2_with fail
  go_ret2
  exact ⟨rfl, (hb.alloc hb.size _).trans (Kept.below ((Kept.refl [] _).drewN _) (by simp; exact Nat.le_trans hb.size (by simp)) (by simp))⟩

set_option maxHeartbeats 400000 in
theorem ZZnewIndent_n008_127_any (w : World) (base : Nat) (bc : Nat) (v : Value) (l : List FE) (x y u o : Int) (h : Fod w base v l) (hbc : bc < w.heap.size) (hcc : w.cell? ⟨bc, 1, none⟩ = some (.int .i64 o)) :
    Calls Try.prog 19 #[.pointer (some ⟨bc, 0, none⟩), v, .int .i64 x, .int .i64 y, .int .i64 u] w (Two w (selI (sameL l) x (wrap64 (x + o))) (selI (sameL l) u (wrap64 (x + o)))) := by
  have H := Lib.hid h; clear h
  go_enter Try.func19, Try.ntmps19
  go_wp2_with fail
  refine (newIndent_any _ base _ _ l _ _ _ o H.out hbc hcc).mono ?_
  rintro e w1 ⟨rfl, hb⟩
  go_wp2_with fail
  go_quiet (fail)
  go_wp2_with fail
  go_ret2
  exact ⟨rfl, (hb.alloc hb.size _).trans (Kept.below ((Kept.refl [] _).drewN _) (by simp; exact Nat.le_trans hb.size (by simp)) (by simp))⟩

set_option maxHeartbeats 400000 in
theorem ZZnewIndentStrong_n008_127_any (w : World) (base : Nat) (bc : Nat) (v : Value) (l : List FE) (x y u o : Int) (h : Fod w base v l) (hbc : bc < w.heap.size) (hcc : w.cell? ⟨bc, 1, none⟩ = some (.int .i64 o)) :
    Calls Try.prog 28 #[.pointer (some ⟨bc, 0, none⟩), v, .int .i64 x, .int .i64 y, .int .i64 u] w (Two w (selI (sameL l) u (wrap64 (x + o))) (selI (sameL l) u (wrap64 (x + o)))) := by
  have H := Lib.hid h; clear h
  go_enter Try.func28, Try.ntmps28
  go_wp2_with fail
  refine (newIndentStrong_any _ base _ _ l _ _ _ o H.out hbc hcc).mono ?_
  rintro e w1 ⟨rfl, hb⟩
  go_wp2_with fail
  go_quiet (fail)
  go_wp2_with fail
  go_ret2
  exact ⟨rfl, (hb.alloc hb.size _).trans (Kept.below ((Kept.refl [] _).drewN _) (by simp; exact Nat.le_trans hb.size (by simp)) (by simp))⟩

set_option maxHeartbeats 400000 in
theorem ZZalign_n008_101_any (w : World) (base : Nat) (p : Option Addr) (v : Value) (l : List FE) (x y u : Int) (h : Fod w base v l) :
    Calls Try.prog 25 #[.pointer p, v, .int .i64 x, .int .i64 y, .int .i64 u] w (Two w (selI (sameL l) x x) (selI (sameL l) u y)) := by
  have H := Lib.hid h; clear h
  go_enter Try.func25, Try.ntmps25
  go_wp2_with fail
  refine (align_any _ base _ _ l _ _ _ H.out).mono ?_
  rintro e w1 ⟨rfl, hb⟩
  go_wp2_with fail
  go_quiet (fail)
  go_wp2_with fail
  go_ret2
  exact ⟨rfl, (hb.alloc hb.size _).trans (Kept.below ((Kept.refl [] _).drewN _) (by simp; exact Nat.le_trans hb.size (by simp)) (by simp))⟩

set_option maxHeartbeats 400000 in
theorem ZZalignStrong_n008_101_any (w : World) (base : Nat) (p : Option Addr) (v : Value) (l : List FE) (x y u : Int) (h : Fod w base v l) :
    Calls Try.prog 24 #[.pointer p, v, .int .i64 x, .int .i64 y, .int .i64 u] w (Two w (selI (sameL l) u x) (selI (sameL l) u y)) := by
  have H := Lib.hid h; clear h
  go_enter Try.func24, Try.ntmps24
  go_wp2_with fail
  refine (alignStrong_any _ base _ _ l _ _ _ H.out).mono ?_
  rintro e w1 ⟨rfl, hb⟩
  go_wp2_with fail
  go_quiet (fail)
  go_wp2_with fail
  go_ret2
  exact ⟨rfl, (hb.alloc hb.size _).trans (Kept.below ((Kept.refl [] _).drewN _) (by simp; exact Nat.le_trans hb.size (by simp)) (by simp))⟩

/-- A FixIndentation of the call's own: its column and its indent option. -/
def IsFix (w : World) (bc : Nat) (col opt : Int) : Prop :=
  bc < w.heap.size ∧ w.cell? ⟨bc, 0, none⟩ = some (.int .i64 col) ∧ w.cell? ⟨bc, 1, none⟩ = some (.int .i64 opt) ∧ w.frozen? ⟨bc, 0, none⟩ = false
def NewFix (w : World) (col opt : Int) (e : Ending) (w' : World) : Prop :=
  e = .returned (.pointer (some ⟨w.heap.size, 0, none⟩)) ∧ IsFix w' w.heap.size col opt ∧ Below w.heap.size w w'
theorem IsFix.kept {w w' : World} {bc : Nat} {col opt : Int} {S : List Nat} (h : IsFix w bc col opt) (hk : Kept S w w') (hn : bc ∉ S) : IsFix w' bc col opt := by
  obtain ⟨h1, h2, h3, h4⟩ := h
  exact ⟨Nat.lt_of_lt_of_le h1 hk.size, hk.cell h2 hn, hk.cell h3 hn, (hk.frozen (p := ⟨bc, 0, none⟩) h1 hn).trans h4⟩
theorem IsFix.below {w w' : World} {bc : Nat} {col opt : Int} (h : IsFix w bc col opt) (hk : Below w.heap.size w w') : IsFix w' bc col opt :=
  h.kept (Kept.of_below hk (Nat.le_refl _) []) (by simp)

set_option maxHeartbeats 400000 in
theorem ZZnewFix_127 (w : World) (col opt : Int) :
    Calls Try.prog 15 #[.int .i64 col, .int .i64 opt] w (NewFix w col opt) := by
  go_enter Try.func15, Try.ntmps15
  go_wp2
  go_ret
  exact ⟨rfl, ⟨by simp, by go_simp, by go_simp, by go_simp⟩, (Below.refl _ _).alloc (Nat.le_refl _) _⟩

set_option maxHeartbeats 400000 in
theorem ZZnewFix_101 (w : World) (col opt : Int) :
    Calls Try.prog 22 #[.int .i64 col, .int .i64 opt] w (NewFix w col opt) := by
  go_enter Try.func22, Try.ntmps22
  go_wp2
  go_ret
  exact ⟨rfl, ⟨by simp, by go_simp, by go_simp, by go_simp⟩, (Below.refl _ _).alloc (Nat.le_refl _) _⟩

set_option maxHeartbeats 400000 in
theorem zzSameLine_any (w : World) (a : Option Addr) (len cap : Nat) (z : List Int) (h : IsRow .i64 w a len cap z) :
    Calls Try.prog 20 #[.slice a len cap] w fun e w' => e = .returned (.bool (len == 0 || z.getD 0 0 == 1)) ∧ w = w' := by
  obtain ⟨hlc, hcm, hzl, _, hcell⟩ := h.open
  unfold maxLen at hcm
  clear h hzl
  by_cases h0 : len = 0
  · subst h0
    clear hcell
    go_enter Try.func20, Try.ntmps20
    go_wp2
    go_ret
    exact ⟨by simp, rfl⟩
  · obtain ⟨b, o, rfl, hbl, hc⟩ := hcell 0 (by omega)
    have hc0 := hc 0 (by omega)
    rw [Nat.add_zero] at hc0
    have hn' : ((len : Int) == 0) = false := by simp; omega
    have hn2 : (len == 0) = false := by simp; omega
    rw [hn2]
    generalize z.getD 0 0 = z0 at *
    clear hc hcell
    go_enter Try.func20, Try.ntmps20
    go_wp2
    go_ret
    exact ⟨by simp, rfl⟩
end Go.Proofs.Ytdnhfboclbpdbaa
