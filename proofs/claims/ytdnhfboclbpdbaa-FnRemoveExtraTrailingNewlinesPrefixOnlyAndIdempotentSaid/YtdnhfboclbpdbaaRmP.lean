/- The walk of the law FnRemoveExtraTrailingNewlinesPrefixOnlyAndIdempotent: it returns true at every slice of cells and every int, and writes nothing that was there. -/
import Derived.Test.YtdnhfboclbpdbaaCell
import Derived.Test.YtdnhfboclbpdbaaClone
namespace Go.Proofs.Ytdnhfboclbpdbaa
open Go.ChangeShapes Go.WideShapes Go.ChangeAt Go.RowKit

set_option maxHeartbeats 400000 in
theorem zzBytes_RmP (w : World) (a : Option Addr) (len cap : Nat) (k : Int) (h : len ≤ 9223372036854775807) :
    Calls Try.prog 39 #[.slice a len cap, .int .i64 k] w (SomeBool w) := by
  go_enter Try.func39, Try.ntmps39
  go_wp2
  all_goals
    go_ret
    exact ⟨_, rfl, rfl⟩

/-- The call on the prefix f[:k]: the fodder reads as cut1 afterwards. -/
theorem zzrm_pre (w : World) (base g cap len k : Nat) (ds : List Cel) (l : List FE) (hl : l = (ds.take len).map Cel.fe ∨ l = cut1 ds len k) (hd : len ≤ ds.length) (hk : k ≤ len) (hlen : len ≤ 65536)
    (hf : Fod w base (.slice (some ⟨g, 0, none⟩) len cap) l) :
    Calls Try.prog 32 #[.slice (some ⟨g, 0, none⟩) k cap] w fun e w' => e = .returned (.tuple #[]) ∧
      Fod w' base (.slice (some ⟨g, 0, none⟩) len cap) (cut1 ds len k) ∧ Kept [g] w w' := by
  cases k with
  | zero =>
    refine (zzrm_none w _ _).mono ?_
    rintro e w' ⟨rfl, rfl⟩
    refine ⟨rfl, ?_, Kept.refl _ _⟩
    rcases hl with rfl | rfl
    · rw [cut1_zero]; exact hf
    · exact hf
  | succ n =>
    obtain ⟨d, hdn⟩ : ∃ d, ds[n]? = some d := ⟨_, List.getElem?_eq_getElem (by omega)⟩
    have hll : l.length = len := by
      rcases hl with rfl | rfl
      · simp; omega
      · exact cut1_length ds len (n + 1) hd
    obtain ⟨e, he, c0, c1, c2, c3⟩ := hf.cells n (by omega)
    refine (zzrm_some w g n cap _ (by omega) c2 (hf.frozen _)).mono ?_
    rintro e' w' ⟨rfl, rfl⟩
    refine ⟨rfl, ?_, (Kept.refl _ _).setCell (Or.inl (by simp)) _⟩
    rcases hl with rfl | rfl
    · obtain rfl : d.fe = e := by
        rw [List.getElem?_map, List.getElem?_take, if_pos (by omega), hdn] at he
        simpa using he
      have hset := hf.set n d.fe { d.fe with b := 0 } he 2 (by omega) (.int .i64 0) rfl
      rw [cut1_set ds len n d hdn (by omega)] at hset
      exact hset
    · rw [cut1_get ds len (n + 1) n d hdn (by omega)] at he
      simp only [if_true, Option.some.injEq] at he
      subst he
      have hset := hf.set n _ ⟨none, 0, 0, d.k % 3, 0, d.i⟩ (cut1_get ds len (n + 1) n d hdn (by omega)) 2 (by omega) (.int .i64 0) (by simp [FE.cells])
      rw [cut1_again ds len n d hdn (by omega)] at hset
      exact hset

/-- The blanks that the first round writes down. -/
def bl1 (ds : List Cel) (len k : Nat) : List Int := (cut1 ds len k).map FE.b
theorem bl1_get (ds : List Cel) (len k j : Nat) (d : Cel) (hd : ds[j]? = some d) (hj : j < len) : (bl1 ds len k).getD j 0 = if j + 1 = k then 0 else d.b := by
  simp [bl1, List.getD, cut1_get ds len k j d hd hj]

namespace fnRemoveExtraTrailingNewlinesPrefixOnlyAndIdempotent
set_option linter.unusedVariables false
set_option maxRecDepth 100000 in
set_option maxHeartbeats 4000000 in
theorem walk (a0 : Option Addr) (len0 cap0 : Nat) (z0 : List Cel) (a1 : Int) (w : World) (w0 : IsCels w a0 len0 cap0 z0) (w1 : (Lit.int .i64 a1).wf = true) :
    Calls Try.prog 10 #[.slice a0 len0 cap0, .int .i64 a1] w fun e w' => e = .returned (.bool true) ∧ Below w.heap.size w w' := by
  have hle := w0.le
  have htop := w0.top
  have hfull := w0.full
  unfold maxLen at htop
  have hb0 : len0 ≤ 9223372036854775807 := by omega
  have W0 := Lib.hid w0; clear w0 w1
  have HFU := Lib.hid hfull; clear hfull
  obtain ⟨i0, hi, hz0, hz1, hz2⟩ := info_parts Try.infoInt
  have HI := Lib.hid hi; clear hi
  have HI0 := Lib.hid hz0; clear hz0
  have HI1 := Lib.hid hz1; clear hz1
  have HI2 := Lib.hid hz2; clear hz2
  go_enter Try.func10, Try.ntmps10
  go_wp2_with fail
  refine (zzBytes_RmP _ _ _ _ _ hb0).mono ?_
  rintro e w' ⟨b, rfl, rfl⟩
  cases b
  · go_wp2_with fail
    go_ret
    exact ⟨rfl, Below.refl _ _⟩
  by_cases h2 : 16384 < len0
  · go_wp2_with fail
    go_ret
    exact ⟨rfl, Below.refl _ _⟩
  by_cases h3 : a1 < 0
  · go_wp2_with fail
    go_ret
    exact ⟨rfl, Below.refl _ _⟩
  by_cases h4 : (len0 : Int) < a1
  · go_wp2_with fail
    go_ret
    exact ⟨rfl, Below.refl _ _⟩
  obtain ⟨k, rfl⟩ : ∃ k : Nat, a1 = k := ⟨a1.toNat, by omega⟩
  have hkl : k ≤ len0 := by omega
  clear h3 h4
  go_wp2_with fail
  refine (toFodder_any _ _ _ _ z0 W0.out (by omega)).mono ?_
  rintro e w1 ⟨v, rfl, hf, hb1⟩
  have hl : ((z0.take len0).map Cel.fe).length = len0 := by rw [List.length_map, List.length_take, HFU.out]; omega
  have hzl : len0 ≤ z0.length := by rw [HFU.out]; omega
  rcases hf.2 with ⟨rfl, hn⟩ | ⟨g, cap, cur, rfl, hg1, hgb, hlc, hcm, -, -⟩
  · rw [hl] at hn
    obtain rfl := hn
    obtain rfl : k = 0 := by omega
    clear hf hl W0 HFU hzl
    go_wp2_with fail
    refine (zzrm_none _ _ _).mono ?_
    rintro e w' ⟨rfl, rfl⟩
    go_wp2_with (at_make; refine wpList_make_full _ rfl _ _ 22 rfl w1.heap.size 3 i0 _ 1 Try.underlying22 HI.out HI0.out HI1.out .i64 .i64 0 0 0 rfl rfl rfl rfl ?b2 ?b3 (Nat.le_refl _) ?_)
    case b2 => rw [HI2.out]; omega
    case b3 => unfold maxLen; omega
    intro w2 hown hgrow
    have hb2 : Below w1.heap.size w1 w2 := (Below.refl _ _).grown hgrow (Nat.le_refl _) (by simp)
    clear hown hgrow
    go_wp2_with fail
    refine wp_loop_rounds 1 ?_
    rw [rounds_succ]
    go_wp2_with fail
    refine (zzrm_none _ _ _).mono ?_
    rintro e w' ⟨rfl, rfl⟩
    go_wp2_with fail
    refine wp_loop_rounds 1 ?_
    rw [rounds_succ]
    go_wp2_with fail
    go_ret
    exact ⟨rfl, below_next hb1 hb2⟩
  · rw [hl] at hf hlc ⊢
    unfold maxLen at hcm
    have hkc : k ≤ cap := by omega
    have hgl : g < w1.heap.size := (Array.getElem?_eq_some_iff.1 hgb).1
    have HF := Lib.hid hf; clear hf hgb hl
    go_wp2_with fail
    refine (zzrm_pre _ _ _ _ len0 k z0 _ (Or.inl rfl) hzl hkl (by omega) HF.out).mono ?_
    rintro e w2 ⟨rfl, hf2, hk2⟩
    have HF2 := Lib.hid hf2; clear hf2 HF
    have hb2 : Below w.heap.size w w2 := hb1.trans (hk2.below hb1.size (by simpa using hg1))
    have hs2 := hk2.size
    clear hk2
    go_wp2_with (at_make; refine wpList_make_full _ rfl _ _ 22 rfl w2.heap.size 3 i0 _ 1 Try.underlying22 HI.out HI0.out HI1.out .i64 .i64 len0 len0 len0 rfl rfl rfl rfl ?b2 ?b3 (Nat.le_refl _) ?_)
    case b2 => rw [HI2.out]; omega
    case b3 => unfold maxLen; omega
    intro w3 hown hgrow
    have hon : w3.ownsRow w2.heap.size 3 1 (.slice (some ⟨w2.heap.size, 0, none⟩) len0 len0) len0 (zTo (bl1 z0 len0 k) len0 0) := by
      rw [zTo_zero]
      simp only [toList_madeCells_one] at hown
      exact hown
    have hk3 : Kept [w2.heap.size] w2 w3 := (Kept.refl _ _).grown hgrow (by simp)
    clear hown hgrow HI HI0 HI1 HI2
    have HON := Lib.hid hon; clear hon
    have HF3 := Lib.hid (HF2.out.kept hk3 (by simp [Value.ownBlock]; omega)); clear HF2
    have hb3 : Below w.heap.size w w3 := hb2.trans (hk3.below hb2.size (by simpa using hb2.size))
    have hs3 := hk3.size
    clear hk3 hb1
    go_wp2_with fail
    go_loopw [7] (fun i wr => ∃ m : Nat, m ≤ len0 ∧ i = .int .i64 m ∧ wr.ownsRow w2.heap.size 3 1 (.slice (some ⟨w2.heap.size, 0, none⟩) len0 len0) len0 (zTo (bl1 z0 len0 k) len0 m) ∧ Kept [w2.heap.size] w3 wr) (fun i _ => len0 - (intOf i).toNat)
    case atStart => exact ⟨0, Nat.zero_le _, rfl, HON.out, Kept.refl _ _⟩
    case round =>
      clear HON
      obtain ⟨m, hm, rfl, hon, hk⟩ := hrel
      by_cases hlt : m < len0
      · obtain ⟨b, o, d, hd, rfl, hbl2, hk0, hk1, q0, q1, q2⟩ := W0.out.cells m hlt
        have hbne : b ≠ w2.heap.size := by have := hb2.size; omega
        have q0 := hk.cell ((hb3.cell (p := ⟨b, o + m * 3, none⟩) hbl2).trans q0) (by simpa using hbne)
        have q1 := hk.cell ((hb3.cell (p := ⟨b, o + m * 3 + 1, none⟩) hbl2).trans q1) (by simpa using hbne)
        have q2 := hk.cell ((hb3.cell (p := ⟨b, o + m * 3 + 2, none⟩) hbl2).trans q2) (by simpa using hbne)
        obtain ⟨e, he, c0, c1, c2, c3⟩ := (HF3.out.kept hk (by simp [Value.ownBlock]; omega)).cells m (by rw [cut1_length z0 len0 k hzl]; exact hlt)
        rw [cut1_get z0 len0 k m d hd hlt] at he
        simp only [Option.some.injEq] at he
        subst he
        dsimp only at c0 c1 c2 c3
        have hcell := World.ownsRow.cellAt hon m (by omega)
        rw [show (zTo (bl1 z0 len0 k) len0 m)[m]? = some (.int .i64 0) by simp [zTo, hlt]] at hcell
        have hfr := World.ownsRow.frozenAt hon m
        have hon' := (World.ownsRow.stored hon m (.int .i64 ((bl1 z0 len0 k).getD m 0))).1
        rw [zTo_set _ len0 m hlt, bl1_get z0 len0 k m d hd hlt] at hon'
        obtain ⟨dk, db, di⟩ := d
        dsimp only at c0 c1 c2 c3 q0 q1 q2 hk0 hk1 hon'
        have hgne : g ≠ w2.heap.size := by omega
        have HON := Lib.hid hon'; clear hon' hon
        have HK := Lib.hid hk; clear hk
        clear hd c0
        have hbb : b < wr.heap.size := by have := World.block_lt_of_cell? wr _ q0; simpa using this
        have hgg : g < wr.heap.size := by have := World.block_lt_of_cell? wr _ c1; simpa using this
        by_cases hlast : m + 1 = k
        · rw [if_pos hlast] at c2 HON
          have hq : ((m : Int) == (k : Int) - 1) = true := by rw [beq_iff_eq]; omega
          go_wp2_with fail
          go_quiet ((go_at_call 33; exact Calls.quiet_of_same (kindOf_any _ _ hk0 hk1)))
          go_wp2_with fail
          go_roundw
          case rel => exact ⟨m + 1, by omega, by go_num, (Kept.refl [] _).drewN _ |>.row HON.out (by simp), (HK.out.setCell (Or.inl (by simp)) _).drewN _⟩
          case measure => simp [intOf]; omega
        · rw [if_neg hlast] at c2 HON
          have hq : ((m : Int) == (k : Int) - 1) = false := by rw [beq_eq_false_iff_ne]; omega
          go_wp2_with fail
          go_quiet ((go_at_call 33; exact Calls.quiet_of_same (kindOf_any _ _ hk0 hk1)))
          go_wp2_with fail
          go_roundw
          case rel => exact ⟨m + 1, by omega, by go_num, (Kept.refl [] _).drewN _ |>.row HON.out (by simp), (HK.out.setCell (Or.inl (by simp)) _).drewN _⟩
          case measure => simp [intOf]; omega
      · obtain rfl : m = len0 := by omega
        obtain ⟨wo, rfl⟩ : ∃ wo : World, wo = wr := ⟨_, rfl⟩
        have HON := Lib.hid hon; clear hon
        have HFo := Lib.hid (HF3.out.kept hk (by simp [Value.ownBlock]; omega)); clear HF3
        have hbo : Below w.heap.size w wo := hb3.trans (hk.below hb3.size (by simpa using hb2.size))
        have hso := hk.size
        clear hk hb3 hlt
        go_wp2_with fail
        refine (zzrm_pre _ _ _ _ m k z0 _ (Or.inr rfl) hzl hkl (by omega) HFo.out).mono ?_
        rintro e w5 ⟨rfl, hf5, hk5⟩
        have HF5 := Lib.hid hf5; clear hf5 HFo
        have HON5 := Lib.hid (hk5.row HON.out (by simp [Value.ownBlock]; omega)); clear HON
        have hb5 : Below w.heap.size w w5 := hbo.trans (hk5.below hbo.size (by simpa using hg1))
        have hs5 := hk5.size
        clear hk5 hbo
        go_wp2_with fail
        go_loopw [9] (fun i wr => ∃ j : Nat, j ≤ m ∧ i = .int .i64 j ∧ Kept [] w5 wr) (fun i _ => m - (intOf i).toNat)
        case atStart => exact ⟨0, Nat.zero_le _, rfl, Kept.refl _ _⟩
        case round =>
          obtain ⟨j, hj, rfl, hk⟩ := hrel
          by_cases hlt : j < m
          · obtain ⟨d, hd⟩ : ∃ d, z0[j]? = some d := ⟨_, List.getElem?_eq_getElem (by omega)⟩
            obtain ⟨e, he, c0, c1, c2, c3⟩ := (HF5.out.kept hk (by simp)).cells j (by rw [cut1_length z0 m k hzl]; exact hlt)
            rw [cut1_get z0 m k j d hd hlt] at he
            simp only [Option.some.injEq] at he
            subst he
            dsimp only at c2
            have hcell := World.ownsRow.cellAt (hk.row HON5.out (by simp)) j (by omega)
            rw [show (zTo (bl1 z0 m k) m m)[j]? = some (.int .i64 ((bl1 z0 m k).getD j 0)) by simp [zTo, hlt], bl1_get z0 m k j d hd hlt] at hcell
            generalize (if j + 1 = k then (0 : Int) else d.b) = bj at *
            have HK := Lib.hid hk; clear hk
            clear c0 c1 c3 hd
            go_wp2_with fail
            go_quiet (fail)
            go_wp2_with fail
            go_roundw
            case rel => exact ⟨j + 1, by omega, by go_num, HK.out.drewN _⟩
            case measure => simp [intOf]; omega
          · have HK := Lib.hid hk; clear hk
            go_wp2_with fail
            go_ret
            exact ⟨rfl, hb5.trans (HK.out.below hb5.size (by simp))⟩
end fnRemoveExtraTrailingNewlinesPrefixOnlyAndIdempotent
end Go.Proofs.Ytdnhfboclbpdbaa
