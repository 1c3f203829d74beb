/- The contracts of n008_135's zzBytes_FnDuplicatedVariablesExact and strBytesB2. -/
import Derived.Test.YtddcpnhpjgeldaaFmtF0
namespace Go.Proofs.YtddcpnhpjgeldaaFmt
open Go.ChangeShapes Go.WideShapes Go.ChangeAt Go.RowKit

set_option maxRecDepth 100000 in
set_option maxHeartbeats 2000000 in
theorem strBytes_any (w : World) (a : Option Addr) (len cap : Nat) (ss : List ByteArray) (h : IsStrs w a len cap ss) :
    Calls Tryf.prog 6 #[.slice a len cap] w fun e w' => ∃ (n : Int) (b : Bool), e = .returned (.tuple #[.int .i64 n, .bool b]) ∧ Kept [] w w' := by
  obtain ⟨hle, htop, hz, hsz, hc⟩ := h.open
  unfold maxLen at htop
  clear h
  have HZ := Lib.hid hz; clear hz
  have HSZ := Lib.hid hsz; clear hsz
  have HC := Lib.hid hc; clear hc
  by_cases h0 : 65536 < len
  · go_enter Tryf.func6, Tryf.ntmps6
    go_wp2_with fail
    go_ret2
    exact ⟨_, _, rfl, Kept.refl _ _⟩
  go_enter Tryf.func6, Tryf.ntmps6
  go_wp2_with fail
  go_loopw [4, 5] (fun c i wr => ∃ (k : Nat) (n : Int), k ≤ len ∧ i = .int .i64 k ∧ c = .int .i64 n ∧ Kept [] w wr) (fun _ i _ => len - (intOf i).toNat)
  case atStart => exact ⟨0, _, Nat.zero_le _, rfl, rfl, Kept.refl _ _⟩
  case round =>
    obtain ⟨k, n, hk, rfl, rfl, hb⟩ := hrel
    have HB := Lib.hid hb; clear hb
    by_cases hlt : k < len
    · obtain ⟨b, o, rfl, hbl, hc⟩ := HC.out k hlt
      have c0 := HB.out.cell (hc k (by omega)) (by simp)
      obtain ⟨s, hs⟩ : ∃ s, ss.getD k ByteArray.empty = s := ⟨_, rfl⟩
      rw [hs] at c0
      have hss : s.size ≤ 9223372036854775807 := by
        rw [← hs, List.getD_eq_getElem?_getD, List.getElem?_eq_getElem (show k < ss.length by rw [HZ.out]; omega)]
        exact HSZ.out _ (List.getElem_mem _)
      clear hc hs
      by_cases g1 : 1048576 < s.size
      · go_wp2_with fail
        go_ret2
        exact ⟨_, _, rfl, HB.out⟩
      obtain ⟨S, hS⟩ : ∃ S, wrap64 (n + s.size) = S := ⟨_, rfl⟩
      by_cases g2 : 1048576 < S
      · go_wp2_with fail
        go_ret2
        exact ⟨_, _, rfl, HB.out⟩
      go_wp2_with fail
      exact ⟨⟨k + 1, _, by omega, by go_num, rfl, HB.out⟩, by simp [intOf]; omega⟩
    · obtain rfl : k = len := by omega
      go_wp2_with fail
      go_ret2
      exact ⟨_, _, rfl, HB.out⟩
end Go.Proofs.YtddcpnhpjgeldaaFmt
