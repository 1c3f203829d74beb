/- The contracts of n008_142's helpers over levels: bytes, bounds, line breaks. -/
import Derived.Test.YtgdipdbmllkckaaGreatFmtE3
import Derived.Test.YtgdipdbmllkckaaGreatFmtRdS
namespace Go.Proofs.YtgdipdbmllkckaaGreatFmt
open Go.ChangeShapes Go.WideShapes Go.ChangeAt Go.RowKit

def GoodSp (s : SE) : Prop := GoodL s.f ∧ ∀ d ∈ s.ifs, GoodL d
def SmallE (s : SE) : Prop := s.f.length ≤ 1048576 ∧ s.ifs.length ≤ 1048576 ∧ ∀ d ∈ s.ifs, d.length ≤ 1048576

set_option maxRecDepth 100000 in
set_option maxHeartbeats 2000000 in
theorem zzSpecsBytes_any (w : World) (a : Option Addr) (len cap : Nat) (ds : List SE) (h : RdS w a len cap ds) : Calls Tryz.prog 6 #[.slice a len cap] w (SomeInt w) := by
  have hle := h.le
  have htop := h.top
  unfold maxLen at htop
  have H := Lib.hid h; clear h
  go_enter Tryz.func6, Tryz.ntmps6
  go_wp2_with fail
  go_loopw [3, 4] (fun c i wr => ∃ (k : Nat) (n : Int), k ≤ len ∧ i = .int .i64 k ∧ c = .int .i64 n ∧ Kept [] w wr) (fun _ i _ => len - (intOf i).toNat)
  case atStart => exact ⟨0, 24, Nat.zero_le _, rfl, rfl, Kept.refl _ _⟩
  case round =>
    obtain ⟨k, n, hk, rfl, rfl, hb⟩ := hrel
    have HB := Lib.hid hb; clear hb
    by_cases hlt : k < len
    · obtain ⟨b, o, s, a1, l1, c1, a2, l2, c2, hs, rfl, hbl, q1, q2, h1, h2⟩ := (H.out.kept0 HB.out).sp k hlt
      have hle2 := h2.le
      have htop2 := h2.top
      unfold maxLen at htop2
      have H1 := Lib.hid h1; clear h1
      have H2 := Lib.hid h2; clear h2
      clear hs
      go_wp2_with fail
      refine (zzElsBytes_any _ a1 l1 c1 _ H1.out).mono ?_
      rintro e w1 ⟨n1, rfl, k1⟩
      have K1 := Lib.hid k1; clear k1
      obtain ⟨S, hS⟩ : ∃ S, wrap64 (n + wrap64 (72 + n1)) = S := ⟨_, rfl⟩
      by_cases hS2 : 1048576 < S
      · go_wp2_with fail
        go_ret
        exact ⟨_, rfl, HB.out.trans K1.out⟩
      go_wp2_with fail
      clear hS
      go_loopw [3, 5] (fun c i wq => ∃ (j : Nat) (n : Int), j ≤ l2 ∧ i = .int .i64 j ∧ c = .int .i64 n ∧ Kept [] wr wq) (fun _ i _ => l2 - (intOf i).toNat)
      case atStart => exact ⟨0, _, Nat.zero_le _, rfl, rfl, K1.out⟩
      case round =>
        obtain ⟨j, n2, hj, rfl, rfl, hb⟩ := hrel
        have KQ := Lib.hid hb; clear hb
        have q1' := KQ.out.cell q1 (by simp)
        have q2' := KQ.out.cell q2 (by simp)
        have q1 := Lib.hid q1
        have q2 := Lib.hid q2
        by_cases hjt : j < l2
        · obtain ⟨b3, o3, r, ra, rl, rc, hr, rfl, hb3, d0, hrz⟩ := (H2.out.kept0 KQ.out).row j hjt
          have HR := Lib.hid hrz; clear hrz hr
          go_wp2_with fail
          refine (zzElsBytes_any _ ra rl rc _ HR.out).mono ?_
          rintro e w3 ⟨n3, rfl, k3⟩
          have K3 := Lib.hid (KQ.out.trans k3); clear k3
          go_wp2_with fail
          all_goals
            first
            | (go_ret; exact ⟨_, rfl, HB.out.trans K3.out⟩)
            | exact ⟨⟨j + 1, _, by omega, by go_num, rfl, K3.out⟩, by simp [intOf]; omega⟩
        · obtain rfl : j = l2 := by omega
          go_wp2_with fail
          exact ⟨⟨k + 1, _, by omega, by go_num, rfl, HB.out.trans KQ.out⟩, by simp [intOf]; omega⟩
    · obtain rfl : k = len := by omega
      go_wp2_with fail
      go_ret
      exact ⟨_, rfl, HB.out⟩
end Go.Proofs.YtgdipdbmllkckaaGreatFmt
