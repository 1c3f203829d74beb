/- The contracts of n008_142's zzBytes_ functions over fields: if true, the slices are short. -/
import Derived.Test.YtgdipdbmllkckaaGreatFmtFL
namespace Go.Proofs.YtgdipdbmllkckaaGreatFmt
open Go.ChangeShapes Go.WideShapes Go.ChangeAt Go.RowKit

set_option maxRecDepth 100000 in
set_option maxHeartbeats 4000000 in
theorem zzBytes_FnObjectCompMatchesModel_any (w : World) (a0 : Option Addr) (len0 cap0 : Nat) (ds0 : List FL) (a1 : Option Addr) (len1 cap1 : Nat) (ds1 : List SE) (a2 : Option Addr) (len2 cap2 : Nat) (h0 : RdF w a0 len0 cap0 ds0) (h1 : RdS w a1 len1 cap1 ds1) (h2 : len2 ≤ 9223372036854775807) : Calls Tryz.prog 4 #[.slice a0 len0 cap0, .slice a1 len1 cap1, .slice a2 len2 cap2] w (Tells ((len0 ≤ 1048576 ∧ ∀ s ∈ ds0, SmallF s) ∧ (len1 ≤ 1048576 ∧ ∀ s ∈ ds1, SmallE s) ∧ len2 ≤ 1048576) w) := by
  have hle0 := h0.le
  have htop0 := h0.top
  have hdl0 := h0.len
  unfold maxLen at htop0
  have HDL0 := Lib.hid hdl0; clear hdl0
  have H0 := Lib.hid h0; clear h0
  have hle1 := h1.le
  have htop1 := h1.top
  have hdl1 := h1.len
  unfold maxLen at htop1
  have HDL1 := Lib.hid hdl1; clear hdl1
  have H1 := Lib.hid h1; clear h1
  go_enter Tryz.func4, Tryz.ntmps4
  by_cases g0 : 1048576 < len0
  · go_wp2_with fail
    go_ret
    exact ⟨false, rfl, Kept.refl _ _, by simp⟩
  go_wp2_with fail
  go_loopw [7, 8] (fun c i wr => ∃ (k : Nat) (n : Int), k ≤ len0 ∧ i = .int .i64 k ∧ c = .int .i64 n ∧ Kept [] w wr ∧ Hid (∀ s ∈ ds0.take k, SmallF s)) (fun _ i _ => len0 - (intOf i).toNat)
  case atStart => exact ⟨0, _, Nat.zero_le _, rfl, rfl, Kept.refl _ _, Lib.hid (by simp)⟩
  case round =>
    obtain ⟨k, n, hk, rfl, rfl, hb, HG0⟩ := hrel
    have HB0 := Lib.hid hb; clear hb
    by_cases hlt : k < len0
    · obtain ⟨b, o, s, a1, l1, c1, a2, l2, c2, hs, rfl, hbl, q0, q1, q2, h1, h2⟩ := (H0.out.kept0 HB0.out).fl k hlt
      have hle1 := h1.le
      have htop1 := h1.top
      have hle2 := h2.le
      have htop2 := h2.top
      have hl1 := h1.len
      have hl2 := h2.len
      unfold maxLen at htop1 htop2
      have HL1 := Lib.hid hl1; clear hl1
      have HL2 := Lib.hid hl2; clear hl2
      have HS := Lib.hid hs; clear hs h1 h2
      by_cases g1 : 1048576 < l1
      · go_wp2_with fail
        go_ret
        exact ⟨false, rfl, HB0.out, by simp⟩
      obtain ⟨S1, hS1⟩ : ∃ S, wrap64 (n + l1) = S := ⟨_, rfl⟩
      by_cases gS1 : 1048576 < S1
      · go_wp2_with fail
        go_ret
        exact ⟨false, rfl, HB0.out, by simp⟩
      by_cases g2 : 1048576 < l2
      · go_wp2_with fail
        go_ret
        exact ⟨false, rfl, HB0.out, by simp⟩
      obtain ⟨S2, hS2⟩ : ∃ S, wrap64 (S1 + l2) = S := ⟨_, rfl⟩
      by_cases gS2 : 1048576 < S2
      · go_wp2_with fail
        go_ret
        exact ⟨false, rfl, HB0.out, by simp⟩
      have hn : SmallF s := ⟨by rw [HL1.out]; omega, by rw [HL2.out]; omega⟩
      have HN := Lib.hid (all_snoc (P := SmallF) HG0.out HS.out hn); clear hn
      go_wp2_with fail
      exact ⟨⟨k + 1, _, by omega, by go_num, rfl, HB0.out, HN⟩, by simp [intOf]; omega⟩
    · obtain rfl : k = len0 := by omega
      by_cases g1 : 1048576 < len1
      · go_wp2_with fail
        go_ret
        exact ⟨false, rfl, HB0.out, by simp⟩
      obtain ⟨S1, hS1⟩ : ∃ S, wrap64 (n + len1) = S := ⟨_, rfl⟩
      by_cases gS1 : 1048576 < S1
      · go_wp2_with fail
        go_ret
        exact ⟨false, rfl, HB0.out, by simp⟩
      go_wp2_with fail
      go_loopw [7, 9] (fun c i wr => ∃ (k : Nat) (n : Int), k ≤ len1 ∧ i = .int .i64 k ∧ c = .int .i64 n ∧ Kept [] w wr ∧ Hid (∀ s ∈ ds1.take k, SmallE s)) (fun _ i _ => len1 - (intOf i).toNat)
      case atStart => exact ⟨0, _, Nat.zero_le _, rfl, rfl, HB0.out, Lib.hid (by simp)⟩
      case round =>
        obtain ⟨k, n, hk, rfl, rfl, hb, HG1⟩ := hrel
        have HB1 := Lib.hid hb; clear hb
        by_cases hlt : k < len1
        · obtain ⟨b, o, s, a1, l1, c1, a2, l2, c2, hs, rfl, hbl, q1, q2, h1, h2⟩ := (H1.out.kept0 HB1.out).sp k hlt
          have hle1 := h1.le
          have htop1 := h1.top
          have hle2 := h2.le
          have htop2 := h2.top
          have hl1 := h1.len
          have hl2 := h2.len
          unfold maxLen at htop1 htop2
          have HL1 := Lib.hid hl1; clear hl1
          have HL2 := Lib.hid hl2; clear hl2
          have H2 := Lib.hid h2; clear h2
          have HS := Lib.hid hs; clear hs h1
          by_cases g1 : 1048576 < l1
          · go_wp2_with fail
            go_ret
            exact ⟨false, rfl, HB1.out, by simp⟩
          obtain ⟨S1, hS1⟩ : ∃ S, wrap64 (n + l1) = S := ⟨_, rfl⟩
          by_cases gS1 : 1048576 < S1
          · go_wp2_with fail
            go_ret
            exact ⟨false, rfl, HB1.out, by simp⟩
          by_cases g2 : 1048576 < l2
          · go_wp2_with fail
            go_ret
            exact ⟨false, rfl, HB1.out, by simp⟩
          obtain ⟨S2, hS2⟩ : ∃ S, wrap64 (S1 + l2) = S := ⟨_, rfl⟩
          by_cases gS2 : 1048576 < S2
          · go_wp2_with fail
            go_ret
            exact ⟨false, rfl, HB1.out, by simp⟩
          go_wp2_with fail
          clear hS1 hS2
          go_loopw [7, 10] (fun c i wq => ∃ (j : Nat) (n : Int), j ≤ l2 ∧ i = .int .i64 j ∧ c = .int .i64 n ∧ Kept [] wr wq ∧ Hid (∀ d ∈ s.ifs.take j, d.length ≤ 1048576)) (fun _ i _ => l2 - (intOf i).toNat)
          case atStart => exact ⟨0, _, Nat.zero_le _, rfl, rfl, Kept.refl _ _, Lib.hid (by simp)⟩
          case round =>
            obtain ⟨j, n2, hj, rfl, rfl, hb, HGJ⟩ := hrel
            have KQ := Lib.hid hb; clear hb
            have q1' := KQ.out.cell q1 (by simp)
            have q2' := KQ.out.cell q2 (by simp)
            have q1 := Lib.hid q1
            have q2 := Lib.hid q2
            by_cases hjt : j < l2
            · obtain ⟨b3, o3, r, ra, rl, rc, hr, rfl, hb3, d0, hrz⟩ := (H2.out.kept0 KQ.out).row j hjt
              have hrl := hrz.len
              have hrle := hrz.le
              have hrt := hrz.top
              unfold maxLen at hrt
              have HRL := Lib.hid hrl; clear hrl hrz
              have HR := Lib.hid hr; clear hr
              by_cases g3 : 1048576 < rl
              · go_wp2_with fail
                go_ret
                exact ⟨false, rfl, HB1.out.trans KQ.out, by simp⟩
              obtain ⟨S3, hS3⟩ : ∃ S, wrap64 (n2 + rl) = S := ⟨_, rfl⟩
              by_cases gS3 : 1048576 < S3
              · go_wp2_with fail
                go_ret
                exact ⟨false, rfl, HB1.out.trans KQ.out, by simp⟩
              have HN := Lib.hid (all_snoc (P := fun d => d.length ≤ 1048576) HGJ.out HR.out (by rw [HRL.out]; omega))
              go_wp2_with fail
              exact ⟨⟨j + 1, _, by omega, by go_num, rfl, KQ.out, HN⟩, by simp [intOf]; omega⟩
            · obtain rfl : j = l2 := by omega
              have hn : SmallE s := ⟨by rw [HL1.out]; omega, by rw [HL2.out]; omega, by have := HGJ.out; rw [← HL2.out, List.take_length] at this; exact this⟩
              have HN := Lib.hid (all_snoc (P := SmallE) HG1.out HS.out hn); clear hn
              go_wp2_with fail
              exact ⟨⟨k + 1, _, by omega, by go_num, rfl, HB1.out.trans KQ.out, HN⟩, by simp [intOf]; omega⟩
        · obtain rfl : k = len1 := by omega
          by_cases g2 : 1048576 < len2
          · go_wp2_with fail
            go_ret
            exact ⟨false, rfl, HB1.out, by simp⟩
          obtain ⟨S2, hS2⟩ : ∃ S, wrap64 (n + len2) = S := ⟨_, rfl⟩
          by_cases gS2 : 1048576 < S2
          · go_wp2_with fail
            go_ret
            exact ⟨false, rfl, HB1.out, by simp⟩
          go_wp2_with fail
          go_ret
          exact ⟨true, rfl, HB1.out, fun _ => ⟨⟨by omega, by have := HG0.out; rw [← HDL0.out, List.take_length] at this; exact this⟩, ⟨by omega, by have := HG1.out; rw [← HDL1.out, List.take_length] at this; exact this⟩, by omega⟩⟩

end Go.Proofs.YtgdipdbmllkckaaGreatFmt
