/- The walk of the law FnRemoveExtraTrailingNewlinesZeroesOnlyLastBlanks: it returns true at every slice of cells, and writes nothing that was there. -/
import Derived.Test.YtdnhfboclbpdbaaCell
namespace Go.Proofs.Ytdnhfboclbpdbaa
open Go.ChangeShapes Go.WideShapes Go.ChangeAt Go.RowKit

set_option maxHeartbeats 400000 in
theorem zzBytes_RmZ (w : World) (a : Option Addr) (len cap : Nat) (h : len ≤ 9223372036854775807) :
    Calls Try.prog 30 #[.slice a len cap] w (SomeBool w) := by
  go_enter Try.func30, Try.ntmps30
  go_wp2
  all_goals
    go_ret
    exact ⟨_, rfl, rfl⟩

namespace fnRemoveExtraTrailingNewlinesZeroesOnlyLastBlanks
set_option maxRecDepth 100000 in
set_option maxHeartbeats 1000000 in
theorem walk (a0 : Option Addr) (len0 cap0 : Nat) (z0 : List Cel) (w : World) (w0 : IsCels w a0 len0 cap0 z0) :
    Calls Try.prog 8 #[.slice a0 len0 cap0] w fun e w' => e = .returned (.bool true) ∧ Below w.heap.size w w' := by
  have hle := w0.le
  have htop := w0.top
  have hfull := w0.full
  unfold maxLen at htop
  have hb0 : len0 ≤ 9223372036854775807 := by omega
  have W0 := Lib.hid w0; clear w0
  have HFU := Lib.hid hfull; clear hfull
  go_enter Try.func8, Try.ntmps8
  go_wp2_with fail
  refine (zzBytes_RmZ _ _ _ _ hb0).mono ?_
  rintro e w' ⟨b, rfl, rfl⟩
  cases b
  · go_wp2_with fail
    go_ret
    exact ⟨rfl, Below.refl _ _⟩
  by_cases h2 : 16384 < len0
  · go_wp2_with fail
    go_ret
    exact ⟨rfl, Below.refl _ _⟩
  go_wp2_with fail
  refine (toFodder_any _ _ _ _ z0 W0.out (by omega)).mono ?_
  rintro e w1 ⟨v, rfl, hf, hb1⟩
  have hl : ((z0.take len0).map Cel.fe).length = len0 := by rw [List.length_map, List.length_take, HFU.out]; omega
  by_cases h0 : len0 = 0
  · subst h0
    obtain ⟨a, cap, hv, _⟩ := hf.slice
    rw [hl] at hv
    subst hv
    clear hf hl W0 HFU
    go_wp2_with fail
    refine (zzrm_none _ _ _).mono ?_
    rintro e w' ⟨rfl, rfl⟩
    go_wp2_with fail
    refine wp_loop_rounds 1 ?_
    rw [rounds_succ]
    go_wp2_with fail
    go_ret
    exact ⟨rfl, hb1⟩
  obtain ⟨n, rfl⟩ : ∃ n, len0 = n + 1 := ⟨len0 - 1, by omega⟩
  obtain ⟨a, cap, hv, hlc, hcm, ha⟩ := hf.slice
  obtain ⟨g, rfl, hg1, hg2⟩ := ha n (by omega)
  rw [hl] at hv
  subst hv
  obtain ⟨b, o, d, hd, -, -, -, -, -⟩ := W0.out.cells n (by omega)
  have hdl : n < z0.length := (List.getElem?_eq_some_iff.1 hd).1
  obtain ⟨e, he, c0, c1, c2, c3⟩ := hf.cells n (by omega)
  obtain rfl : d.fe = e := by
    rw [List.getElem?_map, List.getElem?_take, if_pos (by omega), hd] at he
    simpa using he
  have hfz := hf.frozen (n * 4 + 2)
  have hset := hf.set n d.fe { d.fe with b := 0 } he 2 (by omega) (.int .i64 0) rfl
  rw [cut1_set z0 (n + 1) n d hd (by omega)] at hset
  have HS := Lib.hid hset; clear hset hf he hd hl ha c0 c1 c3
  have hbl : (n : Int) + 1 ≤ 16385 := by omega
  go_wp2_with fail
  refine (zzrm_some _ _ _ _ _ (by omega) c2 hfz).mono ?_
  rintro e w' ⟨rfl, rfl⟩
  have hb2 : Below w.heap.size w (w1.setCell ⟨g, n * 4 + 2, none⟩ (.int .i64 0)) := hb1.setCell hg1 _
  generalize w1.setCell ⟨g, n * 4 + 2, none⟩ (.int .i64 0) = w2 at *
  clear c2 hfz hb1
  go_wp2_with fail
  go_loopw [4] (fun i wr => ∃ m : Nat, m ≤ n + 1 ∧ i = .int .i64 m ∧ Kept [] w2 wr) (fun i _ => n + 1 - (intOf i).toNat)
  case atStart => exact ⟨0, Nat.zero_le _, rfl, Kept.refl _ _⟩
  case round =>
    obtain ⟨m, hm, rfl, hk⟩ := hrel
    have HK := Lib.hid hk; clear hk
    by_cases hlt : m < n + 1
    · obtain ⟨b, o, d, hd, rfl, hbl2, hk0, hk1, q0, q1, q2⟩ := W0.out.cells m hlt
      have q0 := HK.out.cell ((hb2.cell (p := ⟨b, o + m * 3, none⟩) hbl2).trans q0) (by simp)
      have q1 := HK.out.cell ((hb2.cell (p := ⟨b, o + m * 3 + 1, none⟩) hbl2).trans q1) (by simp)
      have q2 := HK.out.cell ((hb2.cell (p := ⟨b, o + m * 3 + 2, none⟩) hbl2).trans q2) (by simp)
      obtain ⟨e, he, c0, c1, c2, c3⟩ := (HS.out.kept HK.out (by simp)).cells m (by rw [cut1_length z0 (n + 1) (n + 1) (by omega)]; exact hlt)
      rw [cut1_get z0 (n + 1) (n + 1) m d hd hlt] at he
      simp only [Option.some.injEq] at he
      subst he
      dsimp only at c0 c1 c2 c3
      obtain ⟨dk, db, di⟩ := d
      dsimp only at c0 c1 c2 c3 q0 q1 q2 hk0 hk1
      have hkeep : Kept [] w2 wr := HK.out
      clear HS HK W0 HFU hd c0
      by_cases hlast : m = n
      · subst hlast
        rw [if_pos rfl] at c2
        go_wp2_with fail
        go_quiet ((go_at_call 33; exact Calls.quiet_of_same (kindOf_any _ _ hk0 hk1)))
        go_wp2_with fail
        go_roundw
        case rel => exact ⟨m + 1, by omega, by go_num, hkeep.drewN _⟩
        case measure => first | (simp [intOf]; done) | (simp [intOf]; omega)
      · rw [if_neg (fun h => hlast (by omega))] at c2
        have hne : ((m : Int) == (n : Int)) = false := by simp; omega
        have hne2 : ((m : Int) == (n : Int) + 1 - 1) = false := by first | (simp; done) | (simp; omega)
        go_wp2_with fail
        go_quiet ((go_at_call 33; exact Calls.quiet_of_same (kindOf_any _ _ hk0 hk1)))
        go_wp2_with fail
        go_roundw
        case rel => exact ⟨m + 1, by omega, by go_num, hkeep.drewN _⟩
        case measure => simp [intOf]; omega
    · go_wp2_with fail
      go_ret
      exact ⟨rfl, hb2.trans (HK.out.below (by have := hb2.size; omega) (by simp))⟩
end fnRemoveExtraTrailingNewlinesZeroesOnlyLastBlanks
end Go.Proofs.Ytdnhfboclbpdbaa
