/- The contracts of n008_135's sameFodderB2 (at fodders of the same codes) and nestedBytesB2. -/
import Derived.Test.YtddcpnhpjgeldaaFmtFZ
namespace Go.Proofs.YtddcpnhpjgeldaaFmt
open Go.ChangeShapes Go.WideShapes Go.ChangeAt Go.RowKit

set_option maxRecDepth 100000 in
set_option maxHeartbeats 4000000 in
theorem same_any (w : World) (base : Nat) (a : Option Addr) (n c : Nat) (l : List FE) (base2 : Nat) (a2 : Option Addr) (n2 c2 : Nat) (l2 : List FE) (h : Fod w base (.slice a n c) l) (h2 : Fod w base2 (.slice a2 n2 c2) l2) (he : codes l = codes l2) :
    Calls Tryf.prog 12 #[.slice a n c, .slice a2 n2 c2] w fun e w' => e = .returned (.bool true) ∧ ∃ m, w' = w.drewN m := by
  have hn := h.len
  have hn2 := h2.len
  have hll : l.length = l2.length := by have := congrArg List.length he; simpa using this
  obtain rfl : n = n2 := by omega
  clear hll hn2
  obtain ⟨_, _, hv, hlc, hcm, ha⟩ := h.slice
  injection hv with hv1 hv2 hv3
  subst hv1 hv3
  clear hv2
  obtain ⟨_, _, hv, -, -, ha2⟩ := h2.slice
  injection hv with hv1 hv2 hv3
  subst hv1 hv3
  unfold maxLen at hcm
  rw [← hn] at hlc ha
  rw [← hv2] at ha2
  clear hv2
  have HN := Lib.hid hn; clear hn
  have HA := Lib.hid ha; clear ha
  have HA2 := Lib.hid ha2; clear ha2
  have H := Lib.hid h; clear h
  have H2 := Lib.hid h2; clear h2
  have HE := Lib.hid he; clear he
  go_enter Tryf.func12, Tryf.ntmps12
  go_wp2_with fail
  go_loopw [5] (fun i wr => ∃ k : Nat, k ≤ n ∧ i = .int .i64 k ∧ ∃ m, wr = w.drewN m) (fun i _ => n - (intOf i).toNat)
  case atStart => exact ⟨0, Nat.zero_le _, rfl, 0, rfl⟩
  case round =>
    obtain ⟨k, hk, rfl, m, rfl⟩ := hrel
    by_cases hkn : k < n
    · obtain ⟨g, rfl, -, -⟩ := HA.out k hkn
      obtain ⟨g2, rfl, -, -⟩ := HA2.out k hkn
      have hl2 : l2.length = n := by have := congrArg List.length HE.out; simp at this; rw [← this]; exact HN.out.symm
      obtain ⟨⟨ca, cl, cc, zk, zb, zi⟩, hz, c0, c1, c2, c3⟩ := H.out.cells k (by rw [← HN.out]; exact hkn)
      obtain ⟨⟨ca2, cl2, cc2, zk2, zb2, zi2⟩, hz2, d0, d1, d2, d3⟩ := H2.out.cells k (by rw [hl2]; exact hkn)
      dsimp only at c0 c1 c2 c3 d0 d1 d2 d3
      have heq : (codes l)[k]? = (codes l2)[k]? := by rw [HE.out]
      rw [List.getElem?_map, List.getElem?_map, hz, hz2] at heq
      simp only [Option.map_some, FE.snap, Option.some.injEq, ZE.mk.injEq] at heq
      obtain ⟨rfl, rfl, rfl, hcl⟩ := heq
      obtain rfl : cl = cl2 := by omega
      clear hcl hz hz2 hl2
      have i1 : (0 : Int) ≤ (k : Int) := by omega
      have i2 : (k : Int) < (n : Int) := by omega
      go_wp2_with fail
      go_quiet (fail)
      go_wp2_with fail
      exact ⟨⟨k + 1, by omega, by go_num, m + nq, rfl⟩, by simp [intOf]; omega⟩
    · obtain rfl : k = n := by omega
      go_wp2_with fail
      go_ret
      exact ⟨rfl, m, rfl⟩

set_option maxRecDepth 100000 in
set_option maxHeartbeats 2000000 in
theorem nested_any (w : World) (a : Option Addr) (len cap : Nat) (dd : List (List ZE)) (h : RdR w a len cap dd) :
    Calls Tryf.prog 7 #[.slice a len cap] w fun e w' => ∃ (n : Int) (b : Bool), e = .returned (.tuple #[.int .i64 n, .bool b]) ∧ Kept [] w w' ∧ Hid (b = true → ∀ r ∈ dd, r.length ≤ 65536) := by
  have hle := h.le
  have htop := h.top
  have hlen := h.len
  unfold maxLen at htop
  have HL := Lib.hid hlen; clear hlen
  have H := Lib.hid h; clear h
  by_cases h0 : 65536 < len
  · go_enter Tryf.func7, Tryf.ntmps7
    go_wp2_with fail
    go_ret2
    exact ⟨_, _, rfl, Kept.refl _ _, Lib.hid (by simp)⟩
  go_enter Tryf.func7, Tryf.ntmps7
  go_wp2_with fail
  go_loopw [4, 5] (fun c i wr => ∃ (k : Nat) (n : Int), k ≤ len ∧ i = .int .i64 k ∧ c = .int .i64 n ∧ Kept [] w wr ∧ Hid (∀ r ∈ dd.take k, r.length ≤ 65536)) (fun _ i _ => len - (intOf i).toNat)
  case atStart => exact ⟨0, _, Nat.zero_le _, rfl, rfl, Kept.refl _ _, Lib.hid (by simp)⟩
  case round =>
    obtain ⟨k, n, hk, rfl, rfl, hb, HK⟩ := hrel
    have HB := Lib.hid hb; clear hb
    by_cases hlt : k < len
    · obtain ⟨b, o, r, ra, rl, rc, hr, rfl, hbl, c0, hrz⟩ := (H.out.kept0 HB.out).row k hlt
      have q1 := hrz.le
      have q2 := hrz.top
      have q3 := hrz.len
      unfold maxLen at q2
      have HRL := Lib.hid q3; clear q3 hrz
      have HR := Lib.hid hr; clear hr
      by_cases g1 : 65536 < rl
      · go_wp2_with fail
        go_ret2
        exact ⟨_, _, rfl, HB.out, Lib.hid (by simp)⟩
      have hnx : ∀ r ∈ dd.take (k + 1), r.length ≤ 65536 := by
        rw [take_snoc HR.out]
        intro x hx
        rcases List.mem_append.1 hx with h | h
        · exact HK.out x h
        · simp at h; subst h; rw [HRL.out]; omega
      have HNX := Lib.hid hnx; clear hnx
      obtain ⟨S, hS⟩ : ∃ S, wrap64 (n + wrap64 (128 * rl)) = S := ⟨_, rfl⟩
      clear hS
      go_wp2_with fail
      all_goals first
        | (go_ret2; exact ⟨_, _, rfl, HB.out, Lib.hid (by simp)⟩)
        | exact ⟨⟨k + 1, _, by omega, by go_num, rfl, HB.out, HNX⟩, by simp [intOf]; omega⟩
    · obtain rfl : k = len := by omega
      have hall : ∀ r ∈ dd, r.length ≤ 65536 := by have := HK.out; rw [← HL.out, List.take_length] at this; exact this
      have HALL := Lib.hid hall; clear hall
      go_wp2_with fail
      go_ret2
      exact ⟨_, _, rfl, HB.out, Lib.hid (fun _ => HALL.out)⟩
end Go.Proofs.YtddcpnhpjgeldaaFmt
