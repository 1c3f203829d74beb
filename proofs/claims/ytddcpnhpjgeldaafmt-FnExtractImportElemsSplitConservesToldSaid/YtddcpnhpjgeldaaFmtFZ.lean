/- The contracts of n008_135's zzBytes_ functions: each returns a bool and changes nothing that was there. -/
import Derived.Test.YtddcpnhpjgeldaaFmtF1
namespace Go.Proofs.YtddcpnhpjgeldaaFmt
open Go.ChangeShapes Go.WideShapes Go.ChangeAt Go.RowKit

/-- It returns a bool and changes nothing that was there. -/
def Any (w : World) (e : Ending) (w' : World) : Prop := ∃ b : Bool, e = .returned (.bool b) ∧ Kept [] w w'







set_option maxRecDepth 100000 in
set_option maxHeartbeats 8000000 in
theorem zzB_FnExtractImportElemsEmptyVarFodderExact (w : World) (a0 : Option Addr) (len0 cap0 : Nat) (z0 : List ByteArray) (a1 : Option Addr) (len1 cap1 : Nat) (z1 : List ByteArray) (a2 : Option Addr) (len2 cap2 : Nat) (h0 : IsStrs w a0 len0 cap0 z0) (h1 : IsStrs w a1 len1 cap1 z1) (h2 : len2 ≤ maxLen) : Calls Tryf.prog 20 #[.slice a0 len0 cap0, .slice a1 len1 cap1, .slice a2 len2 cap2] w (Any w) := by
  obtain ⟨le0, top0, hz0, hs0, hc0⟩ := h0.open
  unfold maxLen at top0
  have HZ0 := Lib.hid hz0; clear hz0
  have HS0 := Lib.hid hs0; clear hs0
  have HC0 := Lib.hid hc0; clear hc0 h0
  obtain ⟨le1, top1, hz1, hs1, hc1⟩ := h1.open
  unfold maxLen at top1
  have HZ1 := Lib.hid hz1; clear hz1
  have HS1 := Lib.hid hs1; clear hs1
  have HC1 := Lib.hid hc1; clear hc1 h1
  unfold maxLen at h2
  by_cases g0 : 1048576 < len0
  · go_enter Tryf.func20, Tryf.ntmps20
    go_wp2_with fail
    all_goals (go_ret; exact ⟨_, rfl, Kept.refl _ _⟩)
  go_enter Tryf.func20, Tryf.ntmps20
  go_wp2_with fail
  all_goals first
    | (go_ret; exact ⟨_, rfl, Kept.refl _ _⟩)
    | skip
  go_loopw [7, 8] (fun c i wr => ∃ (k : Nat) (n : Int), k ≤ len0 ∧ i = .int .i64 k ∧ c = .int .i64 n ∧ Kept [] w wr) (fun _ i _ => len0 - (intOf i).toNat)
  case atStart => exact ⟨0, _, Nat.zero_le _, rfl, rfl, Kept.refl _ _⟩
  case round =>
    obtain ⟨k, n, hk, rfl, rfl, hb⟩ := hrel
    have HB0 := Lib.hid hb; clear hb
    by_cases hlt : k < len0
    · obtain ⟨b, o, rfl, hbl, hc⟩ := HC0.out k hlt
      have c0 := HB0.out.cell (hc k (by omega)) (by simp)
      obtain ⟨s, hs⟩ : ∃ s, z0.getD k ByteArray.empty = s := ⟨_, rfl⟩
      rw [hs] at c0
      have hss : s.size ≤ 9223372036854775807 := by
        rw [← hs, List.getD_eq_getElem?_getD, List.getElem?_eq_getElem (show k < z0.length by rw [HZ0.out]; omega)]
        exact HS0.out _ (List.getElem_mem _)
      clear hc hs
      by_cases g1 : 1048576 < s.size
      · go_wp2_with fail
        go_ret
        exact ⟨_, rfl, HB0.out⟩
      go_wp2_with fail
      all_goals first
        | (go_ret; exact ⟨_, rfl, HB0.out⟩)
        | exact ⟨⟨k + 1, _, by omega, by go_num, rfl, HB0.out⟩, by simp [intOf]; omega⟩
    · obtain rfl : k = len0 := by omega
      by_cases g1 : 1048576 < len1
      · go_wp2_with fail
        all_goals (go_ret; exact ⟨_, rfl, HB0.out⟩)
      go_wp2_with fail
      all_goals first
        | (go_ret; exact ⟨_, rfl, HB0.out⟩)
        | skip
      go_loopw [7, 9] (fun c i wr => ∃ (k : Nat) (n : Int), k ≤ len1 ∧ i = .int .i64 k ∧ c = .int .i64 n ∧ Kept [] w wr) (fun _ i _ => len1 - (intOf i).toNat)
      case atStart => exact ⟨0, _, Nat.zero_le _, rfl, rfl, HB0.out⟩
      case round =>
        obtain ⟨k, n, hk, rfl, rfl, hb⟩ := hrel
        have HB1 := Lib.hid hb; clear hb
        by_cases hlt : k < len1
        · obtain ⟨b, o, rfl, hbl, hc⟩ := HC1.out k hlt
          have c0 := HB1.out.cell (hc k (by omega)) (by simp)
          obtain ⟨s, hs⟩ : ∃ s, z1.getD k ByteArray.empty = s := ⟨_, rfl⟩
          rw [hs] at c0
          have hss : s.size ≤ 9223372036854775807 := by
            rw [← hs, List.getD_eq_getElem?_getD, List.getElem?_eq_getElem (show k < z1.length by rw [HZ1.out]; omega)]
            exact HS1.out _ (List.getElem_mem _)
          clear hc hs
          by_cases g1 : 1048576 < s.size
          · go_wp2_with fail
            go_ret
            exact ⟨_, rfl, HB1.out⟩
          go_wp2_with fail
          all_goals first
            | (go_ret; exact ⟨_, rfl, HB1.out⟩)
            | exact ⟨⟨k + 1, _, by omega, by go_num, rfl, HB1.out⟩, by simp [intOf]; omega⟩
        · obtain rfl : k = len1 := by omega
          by_cases g2 : 1048576 < len2
          · go_wp2_with fail
            all_goals (go_ret; exact ⟨_, rfl, HB1.out⟩)
          go_wp2_with fail
          all_goals (go_ret; exact ⟨_, rfl, HB1.out⟩)

set_option maxRecDepth 100000 in
set_option maxHeartbeats 8000000 in
theorem zzB_FnExtractImportElemsSplitConserves (w : World) (a0 : Option Addr) (len0 cap0 : Nat) (z0 : List ByteArray) (a1 : Option Addr) (len1 cap1 : Nat) (z1 : List ByteArray) (a2 : Option Addr) (len2 cap2 : Nat) (z2 : List (List ZE)) (a3 : Option Addr) (len3 cap3 : Nat) (h0 : IsStrs w a0 len0 cap0 z0) (h1 : IsStrs w a1 len1 cap1 z1) (h2 : RdR w a2 len2 cap2 z2) (h3 : len3 ≤ maxLen) : Calls Tryf.prog 5 #[.slice a0 len0 cap0, .slice a1 len1 cap1, .slice a2 len2 cap2, .slice a3 len3 cap3] w (Any w) := by
  obtain ⟨le0, top0, hz0, hs0, hc0⟩ := h0.open
  unfold maxLen at top0
  have HZ0 := Lib.hid hz0; clear hz0
  have HS0 := Lib.hid hs0; clear hs0
  have HC0 := Lib.hid hc0; clear hc0 h0
  obtain ⟨le1, top1, hz1, hs1, hc1⟩ := h1.open
  unfold maxLen at top1
  have HZ1 := Lib.hid hz1; clear hz1
  have HS1 := Lib.hid hs1; clear hs1
  have HC1 := Lib.hid hc1; clear hc1 h1
  have le2 := h2.le
  have top2 := h2.top
  unfold maxLen at top2
  have HC2 := Lib.hid h2; clear h2
  unfold maxLen at h3
  by_cases g0 : 1048576 < len0
  · go_enter Tryf.func5, Tryf.ntmps5
    go_wp2_with fail
    all_goals (go_ret; exact ⟨_, rfl, Kept.refl _ _⟩)
  go_enter Tryf.func5, Tryf.ntmps5
  go_wp2_with fail
  all_goals first
    | (go_ret; exact ⟨_, rfl, Kept.refl _ _⟩)
    | skip
  go_loopw [9, 10] (fun c i wr => ∃ (k : Nat) (n : Int), k ≤ len0 ∧ i = .int .i64 k ∧ c = .int .i64 n ∧ Kept [] w wr) (fun _ i _ => len0 - (intOf i).toNat)
  case atStart => exact ⟨0, _, Nat.zero_le _, rfl, rfl, Kept.refl _ _⟩
  case round =>
    obtain ⟨k, n, hk, rfl, rfl, hb⟩ := hrel
    have HB0 := Lib.hid hb; clear hb
    by_cases hlt : k < len0
    · obtain ⟨b, o, rfl, hbl, hc⟩ := HC0.out k hlt
      have c0 := HB0.out.cell (hc k (by omega)) (by simp)
      obtain ⟨s, hs⟩ : ∃ s, z0.getD k ByteArray.empty = s := ⟨_, rfl⟩
      rw [hs] at c0
      have hss : s.size ≤ 9223372036854775807 := by
        rw [← hs, List.getD_eq_getElem?_getD, List.getElem?_eq_getElem (show k < z0.length by rw [HZ0.out]; omega)]
        exact HS0.out _ (List.getElem_mem _)
      clear hc hs
      by_cases g1 : 1048576 < s.size
      · go_wp2_with fail
        go_ret
        exact ⟨_, rfl, HB0.out⟩
      go_wp2_with fail
      all_goals first
        | (go_ret; exact ⟨_, rfl, HB0.out⟩)
        | exact ⟨⟨k + 1, _, by omega, by go_num, rfl, HB0.out⟩, by simp [intOf]; omega⟩
    · obtain rfl : k = len0 := by omega
      by_cases g1 : 1048576 < len1
      · go_wp2_with fail
        all_goals (go_ret; exact ⟨_, rfl, HB0.out⟩)
      go_wp2_with fail
      all_goals first
        | (go_ret; exact ⟨_, rfl, HB0.out⟩)
        | skip
      go_loopw [9, 11] (fun c i wr => ∃ (k : Nat) (n : Int), k ≤ len1 ∧ i = .int .i64 k ∧ c = .int .i64 n ∧ Kept [] w wr) (fun _ i _ => len1 - (intOf i).toNat)
      case atStart => exact ⟨0, _, Nat.zero_le _, rfl, rfl, HB0.out⟩
      case round =>
        obtain ⟨k, n, hk, rfl, rfl, hb⟩ := hrel
        have HB1 := Lib.hid hb; clear hb
        by_cases hlt : k < len1
        · obtain ⟨b, o, rfl, hbl, hc⟩ := HC1.out k hlt
          have c0 := HB1.out.cell (hc k (by omega)) (by simp)
          obtain ⟨s, hs⟩ : ∃ s, z1.getD k ByteArray.empty = s := ⟨_, rfl⟩
          rw [hs] at c0
          have hss : s.size ≤ 9223372036854775807 := by
            rw [← hs, List.getD_eq_getElem?_getD, List.getElem?_eq_getElem (show k < z1.length by rw [HZ1.out]; omega)]
            exact HS1.out _ (List.getElem_mem _)
          clear hc hs
          by_cases g1 : 1048576 < s.size
          · go_wp2_with fail
            go_ret
            exact ⟨_, rfl, HB1.out⟩
          go_wp2_with fail
          all_goals first
            | (go_ret; exact ⟨_, rfl, HB1.out⟩)
            | exact ⟨⟨k + 1, _, by omega, by go_num, rfl, HB1.out⟩, by simp [intOf]; omega⟩
        · obtain rfl : k = len1 := by omega
          by_cases g2 : 1048576 < len2
          · go_wp2_with fail
            all_goals (go_ret; exact ⟨_, rfl, HB1.out⟩)
          go_wp2_with fail
          all_goals first
            | (go_ret; exact ⟨_, rfl, HB1.out⟩)
            | skip
          go_loopw [9, 12] (fun c i wr => ∃ (k : Nat) (n : Int), k ≤ len2 ∧ i = .int .i64 k ∧ c = .int .i64 n ∧ Kept [] w wr) (fun _ i _ => len2 - (intOf i).toNat)
          case atStart => exact ⟨0, _, Nat.zero_le _, rfl, rfl, HB1.out⟩
          case round =>
            obtain ⟨k, n, hk, rfl, rfl, hb⟩ := hrel
            have HB2 := Lib.hid hb; clear hb
            by_cases hlt : k < len2
            · obtain ⟨b, o, r, ra, rl, rc, hr, rfl, hbl, c0, hrz⟩ := (HC2.out.kept0 HB2.out).row k hlt
              have q1 := hrz.le
              have q2 := hrz.top
              unfold maxLen at q2
              clear hr hrz
              by_cases g1 : 1048576 < rl
              · go_wp2_with fail
                go_ret
                exact ⟨_, rfl, HB2.out⟩
              go_wp2_with fail
              all_goals first
                | (go_ret; exact ⟨_, rfl, HB2.out⟩)
                | exact ⟨⟨k + 1, _, by omega, by go_num, rfl, HB2.out⟩, by simp [intOf]; omega⟩
            · obtain rfl : k = len2 := by omega
              by_cases g3 : 1048576 < len3
              · go_wp2_with fail
                all_goals (go_ret; exact ⟨_, rfl, HB2.out⟩)
              go_wp2_with fail
              all_goals (go_ret; exact ⟨_, rfl, HB2.out⟩)
end Go.Proofs.YtddcpnhpjgeldaaFmt
