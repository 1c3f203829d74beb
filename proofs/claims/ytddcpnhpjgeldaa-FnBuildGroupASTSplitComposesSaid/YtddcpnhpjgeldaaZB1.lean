/- The contracts of n008_135's zzBytes_ functions: each returns a bool and changes nothing that was there. -/
import Derived.Test.YtddcpnhpjgeldaaD1
namespace Go.Proofs.Ytddcpnhpjgeldaa
open Go.ChangeShapes Go.WideShapes Go.ChangeAt Go.RowKit

/-- It returns a bool and changes nothing that was there. -/
def Any (w : World) (e : Ending) (w' : World) : Prop := ∃ b : Bool, e = .returned (.bool b) ∧ Kept [] w w'

set_option maxRecDepth 100000 in
set_option maxHeartbeats 8000000 in
theorem zzB_FnDuplicatedVariablesExact (w : World) (a0 : Option Addr) (len0 cap0 : Nat) (z0 : List ByteArray) (a1 : Option Addr) (len1 cap1 : Nat) (z1 : List ByteArray) (h0 : IsStrs w a0 len0 cap0 z0) (h1 : IsStrs w a1 len1 cap1 z1) : Calls Try.prog 14 #[.slice a0 len0 cap0, .slice a1 len1 cap1] w (Any w) := by
  obtain ⟨le0, top0, hz0, hs0, hc0⟩ := h0.open
  unfold maxLen at top0
  have HZ0 := Lib.hid hz0; clear hz0
  have HS0 := Lib.hid hs0; clear hs0
  have HC0 := Lib.hid hc0; clear hc0 h0
  obtain ⟨le1, top1, hz1, hs1, hc1⟩ := h1.open
  unfold maxLen at top1
  have HZ1 := Lib.hid hz1; clear hz1
  have HS1 := Lib.hid hs1; clear hs1
  have HC1 := Lib.hid hc1; clear hc1 h1
  by_cases g0 : 1048576 < len0
  · go_enter Try.func14, Try.ntmps14
    go_wp2_with fail
    all_goals (go_ret; exact ⟨_, rfl, Kept.refl _ _⟩)
  go_enter Try.func14, Try.ntmps14
  go_wp2_with fail
  all_goals first
    | (go_ret; exact ⟨_, rfl, Kept.refl _ _⟩)
    | skip
  go_loopw [5, 6] (fun c i wr => ∃ (k : Nat) (n : Int), k ≤ len0 ∧ i = .int .i64 k ∧ c = .int .i64 n ∧ Kept [] w wr) (fun _ i _ => len0 - (intOf i).toNat)
  case atStart => exact ⟨0, _, Nat.zero_le _, rfl, rfl, Kept.refl _ _⟩
  case round =>
    obtain ⟨k, n, hk, rfl, rfl, hb⟩ := hrel
    have HB0 := Lib.hid hb; clear hb
    by_cases hlt : k < len0
    · obtain ⟨b, o, rfl, hbl, hc⟩ := HC0.out k hlt
      have c0 := HB0.out.cell (hc k (by omega)) (by simp)
      obtain ⟨s, hs⟩ : ∃ s, z0.getD k ByteArray.empty = s := ⟨_, rfl⟩
      rw [hs] at c0
      have hss : s.size ≤ 9223372036854775807 := by
        rw [← hs, List.getD_eq_getElem?_getD, List.getElem?_eq_getElem (show k < z0.length by rw [HZ0.out]; omega)]
        exact HS0.out _ (List.getElem_mem _)
      clear hc hs
      by_cases g1 : 1048576 < s.size
      · go_wp2_with fail
        go_ret
        exact ⟨_, rfl, HB0.out⟩
      go_wp2_with fail
      all_goals first
        | (go_ret; exact ⟨_, rfl, HB0.out⟩)
        | exact ⟨⟨k + 1, _, by omega, by go_num, rfl, HB0.out⟩, by simp [intOf]; omega⟩
    · obtain rfl : k = len0 := by omega
      by_cases g1 : 1048576 < len1
      · go_wp2_with fail
        all_goals (go_ret; exact ⟨_, rfl, HB0.out⟩)
      go_wp2_with fail
      all_goals first
        | (go_ret; exact ⟨_, rfl, HB0.out⟩)
        | skip
      go_loopw [5, 7] (fun c i wr => ∃ (k : Nat) (n : Int), k ≤ len1 ∧ i = .int .i64 k ∧ c = .int .i64 n ∧ Kept [] w wr) (fun _ i _ => len1 - (intOf i).toNat)
      case atStart => exact ⟨0, _, Nat.zero_le _, rfl, rfl, HB0.out⟩
      case round =>
        obtain ⟨k, n, hk, rfl, rfl, hb⟩ := hrel
        have HB1 := Lib.hid hb; clear hb
        by_cases hlt : k < len1
        · obtain ⟨b, o, rfl, hbl, hc⟩ := HC1.out k hlt
          have c0 := HB1.out.cell (hc k (by omega)) (by simp)
          obtain ⟨s, hs⟩ : ∃ s, z1.getD k ByteArray.empty = s := ⟨_, rfl⟩
          rw [hs] at c0
          have hss : s.size ≤ 9223372036854775807 := by
            rw [← hs, List.getD_eq_getElem?_getD, List.getElem?_eq_getElem (show k < z1.length by rw [HZ1.out]; omega)]
            exact HS1.out _ (List.getElem_mem _)
          clear hc hs
          by_cases g1 : 1048576 < s.size
          · go_wp2_with fail
            go_ret
            exact ⟨_, rfl, HB1.out⟩
          go_wp2_with fail
          all_goals first
            | (go_ret; exact ⟨_, rfl, HB1.out⟩)
            | exact ⟨⟨k + 1, _, by omega, by go_num, rfl, HB1.out⟩, by simp [intOf]; omega⟩
        · obtain rfl : k = len1 := by omega
          go_wp2_with fail
          all_goals (go_ret; exact ⟨_, rfl, HB1.out⟩)

set_option maxRecDepth 100000 in
set_option maxHeartbeats 8000000 in
theorem zzB_FnDuplicatedVariablesOrderFreeAndMonotone (w : World) (a0 : Option Addr) (len0 cap0 : Nat) (z0 : List ByteArray) (a1 : ByteArray) (a2 : Int) (h0 : IsStrs w a0 len0 cap0 z0) (h1 : a1.size ≤ maxLen) : Calls Try.prog 28 #[.slice a0 len0 cap0, .string a1, .int .i64 a2] w (Any w) := by
  obtain ⟨le0, top0, hz0, hs0, hc0⟩ := h0.open
  unfold maxLen at top0
  have HZ0 := Lib.hid hz0; clear hz0
  have HS0 := Lib.hid hs0; clear hs0
  have HC0 := Lib.hid hc0; clear hc0 h0
  unfold maxLen at h1
  by_cases g0 : 1048576 < len0
  · go_enter Try.func28, Try.ntmps28
    go_wp2_with fail
    all_goals (go_ret; exact ⟨_, rfl, Kept.refl _ _⟩)
  go_enter Try.func28, Try.ntmps28
  go_wp2_with fail
  all_goals first
    | (go_ret; exact ⟨_, rfl, Kept.refl _ _⟩)
    | skip
  go_loopw [7, 8] (fun c i wr => ∃ (k : Nat) (n : Int), k ≤ len0 ∧ i = .int .i64 k ∧ c = .int .i64 n ∧ Kept [] w wr) (fun _ i _ => len0 - (intOf i).toNat)
  case atStart => exact ⟨0, _, Nat.zero_le _, rfl, rfl, Kept.refl _ _⟩
  case round =>
    obtain ⟨k, n, hk, rfl, rfl, hb⟩ := hrel
    have HB0 := Lib.hid hb; clear hb
    by_cases hlt : k < len0
    · obtain ⟨b, o, rfl, hbl, hc⟩ := HC0.out k hlt
      have c0 := HB0.out.cell (hc k (by omega)) (by simp)
      obtain ⟨s, hs⟩ : ∃ s, z0.getD k ByteArray.empty = s := ⟨_, rfl⟩
      rw [hs] at c0
      have hss : s.size ≤ 9223372036854775807 := by
        rw [← hs, List.getD_eq_getElem?_getD, List.getElem?_eq_getElem (show k < z0.length by rw [HZ0.out]; omega)]
        exact HS0.out _ (List.getElem_mem _)
      clear hc hs
      by_cases g1 : 1048576 < s.size
      · go_wp2_with fail
        go_ret
        exact ⟨_, rfl, HB0.out⟩
      go_wp2_with fail
      all_goals first
        | (go_ret; exact ⟨_, rfl, HB0.out⟩)
        | exact ⟨⟨k + 1, _, by omega, by go_num, rfl, HB0.out⟩, by simp [intOf]; omega⟩
    · obtain rfl : k = len0 := by omega
      by_cases g1 : 1048576 < a1.size
      · go_wp2_with fail
        all_goals (go_ret; exact ⟨_, rfl, HB0.out⟩)
      go_wp2_with fail
      all_goals (go_ret; exact ⟨_, rfl, HB0.out⟩)

set_option maxRecDepth 100000 in
set_option maxHeartbeats 8000000 in
theorem zzB_FnBuildGroupASTChainExact (w : World) (a0 : Option Addr) (len0 cap0 : Nat) (z0 : List ByteArray) (a1 : Option Addr) (len1 cap1 : Nat) (z1 : List ByteArray) (a2 : Option Addr) (len2 cap2 : Nat) (z2 : List (List ZE)) (a3 : Option Addr) (len3 cap3 : Nat) (h0 : IsStrs w a0 len0 cap0 z0) (h1 : IsStrs w a1 len1 cap1 z1) (h2 : RdR w a2 len2 cap2 z2) (h3 : len3 ≤ maxLen) : Calls Try.prog 17 #[.slice a0 len0 cap0, .slice a1 len1 cap1, .slice a2 len2 cap2, .slice a3 len3 cap3] w (Any w) := by
  obtain ⟨le0, top0, hz0, hs0, hc0⟩ := h0.open
  unfold maxLen at top0
  have HZ0 := Lib.hid hz0; clear hz0
  have HS0 := Lib.hid hs0; clear hs0
  have HC0 := Lib.hid hc0; clear hc0 h0
  obtain ⟨le1, top1, hz1, hs1, hc1⟩ := h1.open
  unfold maxLen at top1
  have HZ1 := Lib.hid hz1; clear hz1
  have HS1 := Lib.hid hs1; clear hs1
  have HC1 := Lib.hid hc1; clear hc1 h1
  have le2 := h2.le
  have top2 := h2.top
  unfold maxLen at top2
  have HC2 := Lib.hid h2; clear h2
  unfold maxLen at h3
  by_cases g0 : 1048576 < len0
  · go_enter Try.func17, Try.ntmps17
    go_wp2_with fail
    all_goals (go_ret; exact ⟨_, rfl, Kept.refl _ _⟩)
  go_enter Try.func17, Try.ntmps17
  go_wp2_with fail
  all_goals first
    | (go_ret; exact ⟨_, rfl, Kept.refl _ _⟩)
    | skip
  go_loopw [9, 10] (fun c i wr => ∃ (k : Nat) (n : Int), k ≤ len0 ∧ i = .int .i64 k ∧ c = .int .i64 n ∧ Kept [] w wr) (fun _ i _ => len0 - (intOf i).toNat)
  case atStart => exact ⟨0, _, Nat.zero_le _, rfl, rfl, Kept.refl _ _⟩
  case round =>
    obtain ⟨k, n, hk, rfl, rfl, hb⟩ := hrel
    have HB0 := Lib.hid hb; clear hb
    by_cases hlt : k < len0
    · obtain ⟨b, o, rfl, hbl, hc⟩ := HC0.out k hlt
      have c0 := HB0.out.cell (hc k (by omega)) (by simp)
      obtain ⟨s, hs⟩ : ∃ s, z0.getD k ByteArray.empty = s := ⟨_, rfl⟩
      rw [hs] at c0
      have hss : s.size ≤ 9223372036854775807 := by
        rw [← hs, List.getD_eq_getElem?_getD, List.getElem?_eq_getElem (show k < z0.length by rw [HZ0.out]; omega)]
        exact HS0.out _ (List.getElem_mem _)
      clear hc hs
      by_cases g1 : 1048576 < s.size
      · go_wp2_with fail
        go_ret
        exact ⟨_, rfl, HB0.out⟩
      go_wp2_with fail
      all_goals first
        | (go_ret; exact ⟨_, rfl, HB0.out⟩)
        | exact ⟨⟨k + 1, _, by omega, by go_num, rfl, HB0.out⟩, by simp [intOf]; omega⟩
    · obtain rfl : k = len0 := by omega
      by_cases g1 : 1048576 < len1
      · go_wp2_with fail
        all_goals (go_ret; exact ⟨_, rfl, HB0.out⟩)
      go_wp2_with fail
      all_goals first
        | (go_ret; exact ⟨_, rfl, HB0.out⟩)
        | skip
      go_loopw [9, 11] (fun c i wr => ∃ (k : Nat) (n : Int), k ≤ len1 ∧ i = .int .i64 k ∧ c = .int .i64 n ∧ Kept [] w wr) (fun _ i _ => len1 - (intOf i).toNat)
      case atStart => exact ⟨0, _, Nat.zero_le _, rfl, rfl, HB0.out⟩
      case round =>
        obtain ⟨k, n, hk, rfl, rfl, hb⟩ := hrel
        have HB1 := Lib.hid hb; clear hb
        by_cases hlt : k < len1
        · obtain ⟨b, o, rfl, hbl, hc⟩ := HC1.out k hlt
          have c0 := HB1.out.cell (hc k (by omega)) (by simp)
          obtain ⟨s, hs⟩ : ∃ s, z1.getD k ByteArray.empty = s := ⟨_, rfl⟩
          rw [hs] at c0
          have hss : s.size ≤ 9223372036854775807 := by
            rw [← hs, List.getD_eq_getElem?_getD, List.getElem?_eq_getElem (show k < z1.length by rw [HZ1.out]; omega)]
            exact HS1.out _ (List.getElem_mem _)
          clear hc hs
          by_cases g1 : 1048576 < s.size
          · go_wp2_with fail
            go_ret
            exact ⟨_, rfl, HB1.out⟩
          go_wp2_with fail
          all_goals first
            | (go_ret; exact ⟨_, rfl, HB1.out⟩)
            | exact ⟨⟨k + 1, _, by omega, by go_num, rfl, HB1.out⟩, by simp [intOf]; omega⟩
        · obtain rfl : k = len1 := by omega
          by_cases g2 : 1048576 < len2
          · go_wp2_with fail
            all_goals (go_ret; exact ⟨_, rfl, HB1.out⟩)
          go_wp2_with fail
          all_goals first
            | (go_ret; exact ⟨_, rfl, HB1.out⟩)
            | skip
          go_loopw [9, 12] (fun c i wr => ∃ (k : Nat) (n : Int), k ≤ len2 ∧ i = .int .i64 k ∧ c = .int .i64 n ∧ Kept [] w wr) (fun _ i _ => len2 - (intOf i).toNat)
          case atStart => exact ⟨0, _, Nat.zero_le _, rfl, rfl, HB1.out⟩
          case round =>
            obtain ⟨k, n, hk, rfl, rfl, hb⟩ := hrel
            have HB2 := Lib.hid hb; clear hb
            by_cases hlt : k < len2
            · obtain ⟨b, o, r, ra, rl, rc, hr, rfl, hbl, c0, hrz⟩ := (HC2.out.kept0 HB2.out).row k hlt
              have q1 := hrz.le
              have q2 := hrz.top
              unfold maxLen at q2
              clear hr hrz
              by_cases g1 : 1048576 < rl
              · go_wp2_with fail
                go_ret
                exact ⟨_, rfl, HB2.out⟩
              go_wp2_with fail
              all_goals first
                | (go_ret; exact ⟨_, rfl, HB2.out⟩)
                | exact ⟨⟨k + 1, _, by omega, by go_num, rfl, HB2.out⟩, by simp [intOf]; omega⟩
            · obtain rfl : k = len2 := by omega
              by_cases g3 : 1048576 < len3
              · go_wp2_with fail
                all_goals (go_ret; exact ⟨_, rfl, HB2.out⟩)
              go_wp2_with fail
              all_goals (go_ret; exact ⟨_, rfl, HB2.out⟩)

set_option maxRecDepth 100000 in
set_option maxHeartbeats 8000000 in
theorem zzB_FnBuildGroupASTSplitComposes (w : World) (a0 : Option Addr) (len0 cap0 : Nat) (z0 : List ByteArray) (a1 : Option Addr) (len1 cap1 : Nat) (z1 : List (List ZE)) (a2 : Option Addr) (len2 cap2 : Nat) (a3 : Int) (h0 : IsStrs w a0 len0 cap0 z0) (h1 : RdR w a1 len1 cap1 z1) (h2 : len2 ≤ maxLen) : Calls Try.prog 21 #[.slice a0 len0 cap0, .slice a1 len1 cap1, .slice a2 len2 cap2, .int .i64 a3] w (Any w) := by
  obtain ⟨le0, top0, hz0, hs0, hc0⟩ := h0.open
  unfold maxLen at top0
  have HZ0 := Lib.hid hz0; clear hz0
  have HS0 := Lib.hid hs0; clear hs0
  have HC0 := Lib.hid hc0; clear hc0 h0
  have le1 := h1.le
  have top1 := h1.top
  unfold maxLen at top1
  have HC1 := Lib.hid h1; clear h1
  unfold maxLen at h2
  by_cases g0 : 1048576 < len0
  · go_enter Try.func21, Try.ntmps21
    go_wp2_with fail
    all_goals (go_ret; exact ⟨_, rfl, Kept.refl _ _⟩)
  go_enter Try.func21, Try.ntmps21
  go_wp2_with fail
  all_goals first
    | (go_ret; exact ⟨_, rfl, Kept.refl _ _⟩)
    | skip
  go_loopw [9, 10] (fun c i wr => ∃ (k : Nat) (n : Int), k ≤ len0 ∧ i = .int .i64 k ∧ c = .int .i64 n ∧ Kept [] w wr) (fun _ i _ => len0 - (intOf i).toNat)
  case atStart => exact ⟨0, _, Nat.zero_le _, rfl, rfl, Kept.refl _ _⟩
  case round =>
    obtain ⟨k, n, hk, rfl, rfl, hb⟩ := hrel
    have HB0 := Lib.hid hb; clear hb
    by_cases hlt : k < len0
    · obtain ⟨b, o, rfl, hbl, hc⟩ := HC0.out k hlt
      have c0 := HB0.out.cell (hc k (by omega)) (by simp)
      obtain ⟨s, hs⟩ : ∃ s, z0.getD k ByteArray.empty = s := ⟨_, rfl⟩
      rw [hs] at c0
      have hss : s.size ≤ 9223372036854775807 := by
        rw [← hs, List.getD_eq_getElem?_getD, List.getElem?_eq_getElem (show k < z0.length by rw [HZ0.out]; omega)]
        exact HS0.out _ (List.getElem_mem _)
      clear hc hs
      by_cases g1 : 1048576 < s.size
      · go_wp2_with fail
        go_ret
        exact ⟨_, rfl, HB0.out⟩
      go_wp2_with fail
      all_goals first
        | (go_ret; exact ⟨_, rfl, HB0.out⟩)
        | exact ⟨⟨k + 1, _, by omega, by go_num, rfl, HB0.out⟩, by simp [intOf]; omega⟩
    · obtain rfl : k = len0 := by omega
      by_cases g1 : 1048576 < len1
      · go_wp2_with fail
        all_goals (go_ret; exact ⟨_, rfl, HB0.out⟩)
      go_wp2_with fail
      all_goals first
        | (go_ret; exact ⟨_, rfl, HB0.out⟩)
        | skip
      go_loopw [9, 11] (fun c i wr => ∃ (k : Nat) (n : Int), k ≤ len1 ∧ i = .int .i64 k ∧ c = .int .i64 n ∧ Kept [] w wr) (fun _ i _ => len1 - (intOf i).toNat)
      case atStart => exact ⟨0, _, Nat.zero_le _, rfl, rfl, HB0.out⟩
      case round =>
        obtain ⟨k, n, hk, rfl, rfl, hb⟩ := hrel
        have HB1 := Lib.hid hb; clear hb
        by_cases hlt : k < len1
        · obtain ⟨b, o, r, ra, rl, rc, hr, rfl, hbl, c0, hrz⟩ := (HC1.out.kept0 HB1.out).row k hlt
          have q1 := hrz.le
          have q2 := hrz.top
          unfold maxLen at q2
          clear hr hrz
          by_cases g1 : 1048576 < rl
          · go_wp2_with fail
            go_ret
            exact ⟨_, rfl, HB1.out⟩
          go_wp2_with fail
          all_goals first
            | (go_ret; exact ⟨_, rfl, HB1.out⟩)
            | exact ⟨⟨k + 1, _, by omega, by go_num, rfl, HB1.out⟩, by simp [intOf]; omega⟩
        · obtain rfl : k = len1 := by omega
          by_cases g2 : 1048576 < len2
          · go_wp2_with fail
            all_goals (go_ret; exact ⟨_, rfl, HB1.out⟩)
          go_wp2_with fail
          all_goals (go_ret; exact ⟨_, rfl, HB1.out⟩)

set_option maxRecDepth 100000 in
set_option maxHeartbeats 8000000 in
theorem zzB_FnGroupEndsAfterExact (w : World) (a0 : Int) (a1 : Option Addr) (len1 cap1 : Nat) (a2 : Option Addr) (len2 cap2 : Nat) (z2 : List ByteArray) (a3 : Option Addr) (len3 cap3 : Nat) (z3 : List ByteArray) (a4 : Option Addr) (len4 cap4 : Nat) (h1 : len1 ≤ maxLen) (h2 : IsStrs w a2 len2 cap2 z2) (h3 : IsStrs w a3 len3 cap3 z3) (h4 : len4 ≤ maxLen) : Calls Try.prog 24 #[.int .i64 a0, .slice a1 len1 cap1, .slice a2 len2 cap2, .slice a3 len3 cap3, .slice a4 len4 cap4] w (Any w) := by
  unfold maxLen at h1
  obtain ⟨le2, top2, hz2, hs2, hc2⟩ := h2.open
  unfold maxLen at top2
  have HZ2 := Lib.hid hz2; clear hz2
  have HS2 := Lib.hid hs2; clear hs2
  have HC2 := Lib.hid hc2; clear hc2 h2
  obtain ⟨le3, top3, hz3, hs3, hc3⟩ := h3.open
  unfold maxLen at top3
  have HZ3 := Lib.hid hz3; clear hz3
  have HS3 := Lib.hid hs3; clear hs3
  have HC3 := Lib.hid hc3; clear hc3 h3
  unfold maxLen at h4
  by_cases g1 : 1048576 < len1
  · go_enter Try.func24, Try.ntmps24
    go_wp2_with fail
    all_goals (go_ret; exact ⟨_, rfl, Kept.refl _ _⟩)
  by_cases g2 : 1048576 < len2
  · go_enter Try.func24, Try.ntmps24
    go_wp2_with fail
    all_goals (go_ret; exact ⟨_, rfl, Kept.refl _ _⟩)
  go_enter Try.func24, Try.ntmps24
  go_wp2_with fail
  all_goals first
    | (go_ret; exact ⟨_, rfl, Kept.refl _ _⟩)
    | skip
  go_loopw [11, 12] (fun c i wr => ∃ (k : Nat) (n : Int), k ≤ len2 ∧ i = .int .i64 k ∧ c = .int .i64 n ∧ Kept [] w wr) (fun _ i _ => len2 - (intOf i).toNat)
  case atStart => exact ⟨0, _, Nat.zero_le _, rfl, rfl, Kept.refl _ _⟩
  case round =>
    obtain ⟨k, n, hk, rfl, rfl, hb⟩ := hrel
    have HB2 := Lib.hid hb; clear hb
    by_cases hlt : k < len2
    · obtain ⟨b, o, rfl, hbl, hc⟩ := HC2.out k hlt
      have c0 := HB2.out.cell (hc k (by omega)) (by simp)
      obtain ⟨s, hs⟩ : ∃ s, z2.getD k ByteArray.empty = s := ⟨_, rfl⟩
      rw [hs] at c0
      have hss : s.size ≤ 9223372036854775807 := by
        rw [← hs, List.getD_eq_getElem?_getD, List.getElem?_eq_getElem (show k < z2.length by rw [HZ2.out]; omega)]
        exact HS2.out _ (List.getElem_mem _)
      clear hc hs
      by_cases g1 : 1048576 < s.size
      · go_wp2_with fail
        go_ret
        exact ⟨_, rfl, HB2.out⟩
      go_wp2_with fail
      all_goals first
        | (go_ret; exact ⟨_, rfl, HB2.out⟩)
        | exact ⟨⟨k + 1, _, by omega, by go_num, rfl, HB2.out⟩, by simp [intOf]; omega⟩
    · obtain rfl : k = len2 := by omega
      by_cases g3 : 1048576 < len3
      · go_wp2_with fail
        all_goals (go_ret; exact ⟨_, rfl, HB2.out⟩)
      go_wp2_with fail
      all_goals first
        | (go_ret; exact ⟨_, rfl, HB2.out⟩)
        | skip
      go_loopw [11, 13] (fun c i wr => ∃ (k : Nat) (n : Int), k ≤ len3 ∧ i = .int .i64 k ∧ c = .int .i64 n ∧ Kept [] w wr) (fun _ i _ => len3 - (intOf i).toNat)
      case atStart => exact ⟨0, _, Nat.zero_le _, rfl, rfl, HB2.out⟩
      case round =>
        obtain ⟨k, n, hk, rfl, rfl, hb⟩ := hrel
        have HB3 := Lib.hid hb; clear hb
        by_cases hlt : k < len3
        · obtain ⟨b, o, rfl, hbl, hc⟩ := HC3.out k hlt
          have c0 := HB3.out.cell (hc k (by omega)) (by simp)
          obtain ⟨s, hs⟩ : ∃ s, z3.getD k ByteArray.empty = s := ⟨_, rfl⟩
          rw [hs] at c0
          have hss : s.size ≤ 9223372036854775807 := by
            rw [← hs, List.getD_eq_getElem?_getD, List.getElem?_eq_getElem (show k < z3.length by rw [HZ3.out]; omega)]
            exact HS3.out _ (List.getElem_mem _)
          clear hc hs
          by_cases g1 : 1048576 < s.size
          · go_wp2_with fail
            go_ret
            exact ⟨_, rfl, HB3.out⟩
          go_wp2_with fail
          all_goals first
            | (go_ret; exact ⟨_, rfl, HB3.out⟩)
            | exact ⟨⟨k + 1, _, by omega, by go_num, rfl, HB3.out⟩, by simp [intOf]; omega⟩
        · obtain rfl : k = len3 := by omega
          by_cases g4 : 1048576 < len4
          · go_wp2_with fail
            all_goals (go_ret; exact ⟨_, rfl, HB3.out⟩)
          go_wp2_with fail
          all_goals (go_ret; exact ⟨_, rfl, HB3.out⟩)

set_option maxRecDepth 100000 in
set_option maxHeartbeats 8000000 in
theorem zzB_FnGroupEndsAfterTailMonotoneAndSameLineCommentNeutral (w : World) (a0 : Option Addr) (len0 cap0 : Nat) (a1 : Option Addr) (len1 cap1 : Nat) (a2 : Option Addr) (len2 cap2 : Nat) (z2 : List ByteArray) (a3 : Option Addr) (len3 cap3 : Nat) (z3 : List ByteArray) (h0 : len0 ≤ maxLen) (h1 : len1 ≤ maxLen) (h2 : IsStrs w a2 len2 cap2 z2) (h3 : IsStrs w a3 len3 cap3 z3) : Calls Try.prog 9 #[.slice a0 len0 cap0, .slice a1 len1 cap1, .slice a2 len2 cap2, .slice a3 len3 cap3] w (Any w) := by
  unfold maxLen at h0
  unfold maxLen at h1
  obtain ⟨le2, top2, hz2, hs2, hc2⟩ := h2.open
  unfold maxLen at top2
  have HZ2 := Lib.hid hz2; clear hz2
  have HS2 := Lib.hid hs2; clear hs2
  have HC2 := Lib.hid hc2; clear hc2 h2
  obtain ⟨le3, top3, hz3, hs3, hc3⟩ := h3.open
  unfold maxLen at top3
  have HZ3 := Lib.hid hz3; clear hz3
  have HS3 := Lib.hid hs3; clear hs3
  have HC3 := Lib.hid hc3; clear hc3 h3
  by_cases g0 : 1048576 < len0
  · go_enter Try.func9, Try.ntmps9
    go_wp2_with fail
    all_goals (go_ret; exact ⟨_, rfl, Kept.refl _ _⟩)
  by_cases g1 : 1048576 < len1
  · go_enter Try.func9, Try.ntmps9
    go_wp2_with fail
    all_goals (go_ret; exact ⟨_, rfl, Kept.refl _ _⟩)
  by_cases g2 : 1048576 < len2
  · go_enter Try.func9, Try.ntmps9
    go_wp2_with fail
    all_goals (go_ret; exact ⟨_, rfl, Kept.refl _ _⟩)
  go_enter Try.func9, Try.ntmps9
  go_wp2_with fail
  all_goals first
    | (go_ret; exact ⟨_, rfl, Kept.refl _ _⟩)
    | skip
  go_loopw [9, 10] (fun c i wr => ∃ (k : Nat) (n : Int), k ≤ len2 ∧ i = .int .i64 k ∧ c = .int .i64 n ∧ Kept [] w wr) (fun _ i _ => len2 - (intOf i).toNat)
  case atStart => exact ⟨0, _, Nat.zero_le _, rfl, rfl, Kept.refl _ _⟩
  case round =>
    obtain ⟨k, n, hk, rfl, rfl, hb⟩ := hrel
    have HB2 := Lib.hid hb; clear hb
    by_cases hlt : k < len2
    · obtain ⟨b, o, rfl, hbl, hc⟩ := HC2.out k hlt
      have c0 := HB2.out.cell (hc k (by omega)) (by simp)
      obtain ⟨s, hs⟩ : ∃ s, z2.getD k ByteArray.empty = s := ⟨_, rfl⟩
      rw [hs] at c0
      have hss : s.size ≤ 9223372036854775807 := by
        rw [← hs, List.getD_eq_getElem?_getD, List.getElem?_eq_getElem (show k < z2.length by rw [HZ2.out]; omega)]
        exact HS2.out _ (List.getElem_mem _)
      clear hc hs
      by_cases g1 : 1048576 < s.size
      · go_wp2_with fail
        go_ret
        exact ⟨_, rfl, HB2.out⟩
      go_wp2_with fail
      all_goals first
        | (go_ret; exact ⟨_, rfl, HB2.out⟩)
        | exact ⟨⟨k + 1, _, by omega, by go_num, rfl, HB2.out⟩, by simp [intOf]; omega⟩
    · obtain rfl : k = len2 := by omega
      by_cases g3 : 1048576 < len3
      · go_wp2_with fail
        all_goals (go_ret; exact ⟨_, rfl, HB2.out⟩)
      go_wp2_with fail
      all_goals first
        | (go_ret; exact ⟨_, rfl, HB2.out⟩)
        | skip
      go_loopw [9, 11] (fun c i wr => ∃ (k : Nat) (n : Int), k ≤ len3 ∧ i = .int .i64 k ∧ c = .int .i64 n ∧ Kept [] w wr) (fun _ i _ => len3 - (intOf i).toNat)
      case atStart => exact ⟨0, _, Nat.zero_le _, rfl, rfl, HB2.out⟩
      case round =>
        obtain ⟨k, n, hk, rfl, rfl, hb⟩ := hrel
        have HB3 := Lib.hid hb; clear hb
        by_cases hlt : k < len3
        · obtain ⟨b, o, rfl, hbl, hc⟩ := HC3.out k hlt
          have c0 := HB3.out.cell (hc k (by omega)) (by simp)
          obtain ⟨s, hs⟩ : ∃ s, z3.getD k ByteArray.empty = s := ⟨_, rfl⟩
          rw [hs] at c0
          have hss : s.size ≤ 9223372036854775807 := by
            rw [← hs, List.getD_eq_getElem?_getD, List.getElem?_eq_getElem (show k < z3.length by rw [HZ3.out]; omega)]
            exact HS3.out _ (List.getElem_mem _)
          clear hc hs
          by_cases g1 : 1048576 < s.size
          · go_wp2_with fail
            go_ret
            exact ⟨_, rfl, HB3.out⟩
          go_wp2_with fail
          all_goals first
            | (go_ret; exact ⟨_, rfl, HB3.out⟩)
            | exact ⟨⟨k + 1, _, by omega, by go_num, rfl, HB3.out⟩, by simp [intOf]; omega⟩
        · obtain rfl : k = len3 := by omega
          go_wp2_with fail
          all_goals (go_ret; exact ⟨_, rfl, HB3.out⟩)


end Go.Proofs.Ytddcpnhpjgeldaa
