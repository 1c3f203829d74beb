/- The walk of the law FnFillColumnAndIndentsExact: it returns true at every input, and writes nothing that was there. -/
import Derived.Test.YtdnhfboclbpdbaaFiMo
namespace Go.Proofs.Ytdnhfboclbpdbaa
open Go.ChangeShapes Go.WideShapes Go.ChangeAt Go.RowKit

set_option maxRecDepth 100000 in
set_option maxHeartbeats 1000000 in
theorem zzBytes_FiCo (w : World) (a : Option Addr) (len cap : Nat) (a1 : Option Addr) (len1 cap1 : Nat) (a2 : Option Addr) (len2 cap2 : Nat) (ss : List ByteArray) (x1 x3 : Int) (b1 b2 : Bool) (h : len ≤ 9223372036854775807) (h1 : len1 ≤ 9223372036854775807) (hs : IsStrs w a2 len2 cap2 ss) :
    Calls Try.prog 43 #[.slice a len cap, .slice a1 len1 cap1, .slice a2 len2 cap2, .int .i64 x1, .bool b1, .bool b2, .int .i64 x3] w (SomeBool w) := by
  obtain ⟨hlc, hcm, hzl, hwf, hcell⟩ := hs.open
  have HW := Lib.hid hwf; clear hwf
  have HZ := Lib.hid hzl; clear hzl
  have HC := Lib.hid hcell; clear hcell hs
  unfold maxLen at hcm
  by_cases c0 : 1048576 < len
  · go_enter Try.func43, Try.ntmps43
    go_wp2
    go_ret
    exact ⟨_, rfl, rfl⟩
  by_cases c1 : 1048576 < len1
  · go_enter Try.func43, Try.ntmps43
    go_wp2
    go_ret
    exact ⟨_, rfl, rfl⟩
  by_cases c2 : 1048576 < len + len1
  · go_enter Try.func43, Try.ntmps43
    go_wp2
    go_ret
    exact ⟨_, rfl, rfl⟩
  by_cases c3 : 1048576 < len2
  · go_enter Try.func43, Try.ntmps43
    go_wp2
    go_ret
    exact ⟨_, rfl, rfl⟩
  by_cases c4 : 1048576 < len + len1 + len2
  · go_enter Try.func43, Try.ntmps43
    go_wp2
    go_ret
    exact ⟨_, rfl, rfl⟩
  go_enter Try.func43, Try.ntmps43
  go_wp2
  go_loop [15, 16] (fun c i => ∃ (n : Int) (m : Nat), m ≤ len2 ∧ i = .int .i64 m ∧ c = .int .i64 n ∧ 0 ≤ n ∧ n ≤ 1048576) (fun _ i => len2 - (intOf i).toNat)
  case atStart => exact ⟨_, 0, Nat.zero_le _, rfl, rfl, by omega, by omega⟩
  case round =>
    obtain ⟨n, m, hm, rfl, rfl, hn0, hn1⟩ := hrel
    by_cases hlt : m < len2
    · obtain ⟨b, o, rfl, hbl, hc⟩ := HC.out m hlt
      have hcm := hc m (by omega)
      generalize ss.getD m ByteArray.empty = sm at *
      clear hc HC
      by_cases d1 : 1048576 < sm.size
      · go_wp2
        go_ret
        exact ⟨_, rfl, rfl⟩
      by_cases d2 : 1048576 < n + sm.size
      · go_wp2
        go_ret
        exact ⟨_, rfl, rfl⟩
      go_wp2
      go_round
      case rel => exact ⟨_, m + 1, by omega, by go_num, rfl, by omega, by omega⟩
      case measure => simp [intOf]; omega
    · clear HC
      go_wp2
      go_ret
      exact ⟨_, rfl, rfl⟩

/-- The last code that is no 1. -/
theorem lastNL (z : List Int) (n : Nat) : (∀ i, i < n → z.getD i 0 = 1) ∨ ∃ L, L < n ∧ z.getD L 0 ≠ 1 ∧ ∀ i, L < i → i < n → z.getD i 0 = 1 := by
  induction n with
  | zero => exact Or.inl (fun i hi => by omega)
  | succ n ih =>
    by_cases hz : z.getD n 0 = 1
    · rcases ih with h | ⟨L, h1, h2, h3⟩
      · exact Or.inl (fun i hi => by by_cases hi' : i = n; subst hi'; exact hz; exact h i (by omega))
      · exact Or.inr ⟨L, by omega, h2, fun i hi hn => by by_cases hi' : i = n; subst hi'; exact hz; exact h3 i hi (by omega)⟩
    · exact Or.inr ⟨n, by omega, hz, fun i hi hn => by omega⟩

/-- The model's answer is fill's column. -/
theorem zzFillModel_any (w : World) (a : Option Addr) (len cap : Nat) (z : List Int) (a1 : Option Addr) (len1 cap1 : Nat) (ss : List ByteArray) (c0 ind : Int) (cr sep : Bool)
    (h : IsRow .i64 w a len cap z) (h1 : IsStrs w a1 len1 cap1 ss) (hlen : len ≤ 1048576) (hlen1 : len1 ≤ 1048576) (tx : Nat → ByteArray) (htx : (fun j => if j < len1 then ss.getD j ByteArray.empty else ByteArray.empty) = tx)
    (hc0 : wrap64 c0 = c0) (hind : wrap64 ind = ind) :
    Calls Try.prog 44 #[.slice a len cap, .slice a1 len1 cap1, .int .i64 c0, .bool cr, .bool sep, .int .i64 ind] w fun e w' => e = .returned (.int .i64 (fillEnd (fillTo z tx ind c0 cr len) sep)) ∧ w = w' := by
  rcases lastNL z len with hall | ⟨L, hL, hzL, hab⟩
  · have := model_eq z tx ind c0 cr sep 0 c0 cr rfl hc0 len (fun i hi => by rw [Nat.zero_add]; exact hall i hi)
    rw [Nat.zero_add] at this
    rw [this]
    exact zzFillModel_no w a len cap z a1 len1 cap1 ss c0 ind cr sep h h1 hlen hlen1 tx htx hall
  · have e1 : fillTo z tx ind c0 cr (L + 1) = (ind, false) := by simp only [fillTo, hzL, if_false]
    have := model_eq z tx ind c0 cr sep (L + 1) ind false e1 hind (len - (L + 1)) (fun i hi => hab _ (by omega) (by omega))
    rw [show L + 1 + (len - (L + 1)) = len from by omega] at this
    rw [this]
    exact zzFillModel_nl w a len cap z a1 len1 cap1 ss c0 ind cr sep h h1 hlen hlen1 tx htx L hL hzL hab

theorem wrap_of_wf (n : Int) (h : (Lit.int .i64 n).wf = true) : wrap64 n = n := by
  have hb : -9223372036854775808 ≤ n ∧ n ≤ 9223372036854775807 := by simpa [Lit.wf, IntKind.min, IntKind.max, IntKind.signed, IntKind.bits] using h
  unfold wrap64
  omega

namespace fnFillColumnAndIndentsExact
set_option linter.unusedVariables false
set_option maxRecDepth 100000 in
set_option maxHeartbeats 8000000 in
theorem walk (a0 : Option Addr) (len0 cap0 : Nat) (z0 : List Int) (a1 : Option Addr) (len1 cap1 : Nat) (z1 : List Int) (a2 : Option Addr) (len2 cap2 : Nat) (z2 : List ByteArray) (a3 : Int) (a4 a5 : Bool) (a6 : Int) (w : World)
    (w0 : IsRow .i64 w a0 len0 cap0 z0) (w1 : IsRow .i64 w a1 len1 cap1 z1) (w2 : IsStrs w a2 len2 cap2 z2) (w3 : (Lit.int .i64 a3).wf = true) (w6 : (Lit.int .i64 a6).wf = true) :
    Calls Try.prog 12 #[.slice a0 len0 cap0, .slice a1 len1 cap1, .slice a2 len2 cap2, .int .i64 a3, .bool a4, .bool a5, .int .i64 a6] w fun e w' => e = .returned (.bool true) ∧ Below w.heap.size w w' := by
  have hw := w0.open
  have hb0 : len0 ≤ 9223372036854775807 := by have := hw.1; have := hw.2.1; unfold maxLen at *; omega
  have hw1 := w1.open
  have hb1 : len1 ≤ 9223372036854775807 := by have := hw1.1; have := hw1.2.1; unfold maxLen at *; omega
  have hx3 := Lib.hid (wrap_of_wf a3 w3); clear w3
  have hx6 := Lib.hid (wrap_of_wf a6 w6); clear w6
  have W0 := Lib.hid w0; clear w0 hw
  have W1 := Lib.hid w1; clear w1 hw1
  have W2 := Lib.hid w2; clear w2
  go_enter Try.func12, Try.ntmps12
  go_wp2_with fail
  refine (zzBytes_FiCo _ _ _ _ _ _ _ _ _ _ z2 _ _ _ _ hb0 hb1 W2.out).mono ?_
  rintro e w' ⟨b, rfl, rfl⟩
  cases b
  · go_wp2_with fail
    go_ret
    exact ⟨rfl, Below.refl _ _⟩
  go_wp2_with fail
  refine (zzOutOfSize3_any _ _ _ _ _ _ _ _ _ _ z2 hb0 hb1 W2.out).mono ?_
  rintro e w' ⟨b, rfl, hsz, rfl⟩
  cases b
  rotate_left
  · go_wp2_with fail
    go_ret
    exact ⟨rfl, Below.refl _ _⟩
  obtain ⟨hl0, hl1, hl2⟩ := hsz rfl
  clear hsz
  go_wp2_with fail
  refine (zzCloneInts_any _ _ _ _ z0 W0.out (by omega)).mono ?_
  rintro e w1 ⟨a0', c0', rfl, hr1, hb1⟩
  have HS1 := Lib.hid ((Kept.of_below hb1 (Nat.le_refl _) []).strs W2.out (by simp))
  have HI1 := Lib.hid ((Kept.of_below hb1 (Nat.le_refl _) []).ints W1.out (by simp))
  have HR1 := Lib.hid hr1; clear hr1
  have HB1 := Lib.hid hb1; clear hb1
  generalize z0.take len0 = zs at *
  go_wp2_with fail
  refine (zzCloneInts_any _ _ _ _ z1 HI1.out (by omega)).mono ?_
  rintro e w2 ⟨a1', c1', rfl, hr2, hb2⟩
  have HS2 := Lib.hid ((Kept.of_below hb2 (Nat.le_refl _) []).strs HS1.out (by simp)); clear HS1
  have HR2 := Lib.hid ((Kept.of_below hb2 (Nat.le_refl _) []).ints HR1.out (by simp)); clear HR1
  have HI2 := Lib.hid hr2; clear hr2 HI1
  have HB2 := Lib.hid (below_next HB1.out hb2); clear hb2 HB1
  generalize z1.take len1 = zi at *
  go_wp2_with fail
  refine (zzCloneStrings_any _ _ _ _ z2 HS2.out (by omega)).mono ?_
  rintro e w3 ⟨a2', c2', rfl, hs3, hb3⟩
  have HR3 := Lib.hid ((Kept.of_below hb3 (Nat.le_refl _) []).ints HR2.out (by simp)); clear HR2
  have HI3 := Lib.hid ((Kept.of_below hb3 (Nat.le_refl _) []).ints HI2.out (by simp)); clear HI2
  have HS3 := Lib.hid hs3; clear hs3 HS2
  generalize z2.take len2 = ss at *
  have HB3 := Lib.hid (below_next HB2.out hb3); clear hb3 HB2
  go_wp2_with fail
  refine (zzBuild_any _ _ _ _ zs _ _ _ zi _ _ _ ss HR3.out HI3.out HS3.out (by omega)).mono ?_
  rintro e w4 ⟨rfl, hbi⟩
  have htx := tx_size (len := len2) (ss := ss) (by obtain ⟨_, _, _, h, _⟩ := HS3.out.open; exact h)
  generalize hiv : (fun j => if j < len1 then zi.getD j 0 else 0) = iv at *
  generalize htxe : (fun j => if j < len2 then ss.getD j ByteArray.empty else ByteArray.empty) = tx at *
  have htx : ∀ j, j < len0 → (tx j).size ≤ 9223372036854775807 := by intro j _; rw [← htxe]; exact htx j
  have hq := hbi.size
  have HBI := Lib.hid hbi; clear hbi
  have HTX := Lib.hid htx; clear htx
  have HIV := Lib.hid hiv; clear hiv
  have HTE := Lib.hid htxe; clear htxe
  have HQ := Lib.hid hq.1
  have hs4 := hq.2; clear hq
  go_wp2_with fail
  refine (ZZnewFix_127 _ _ _).mono ?_
  rintro e w5 ⟨rfl, hfx, hb5⟩
  have hs5 := hb5.size
  have HX := Lib.hid hfx; clear hfx
  have hk45 : Kept [] w4 w5 := Kept.of_below hb5 (Nat.le_refl _) []
  obtain ⟨l, hll, hf, hel⟩ := HBI.out.els (bc := w4.heap.size) hk45 (by simp) (by simp) (by omega)
  have HK45 := Lib.hid hk45; clear hk45 hb5
  have HF := Lib.hid hf; clear hf
  have HE := Lib.hid hel; clear hel
  have HL := Lib.hid hll; clear hll
  go_wp2_with fail
  refine (fill_any _ _ _ _ _ zs iv tx _ _ _ _ _ l HL.out (by omega) HF.out HE.out HX.out (by omega) HTX.out).mono ?_
  rintro e w6 ⟨rfl, hx6', ⟨l2, hll2, hf6, he6⟩, hk6⟩
  have hk36 : Kept [w3.heap.size, w4.heap.size] w3 w6 := ((Kept.of_below HQ.out (Nat.le_refl _) _).then HK45.out (by simp)).then hk6 (by simp)
  have HR6 := Lib.hid (hk36.ints HR3.out (by simp; omega)); clear HR3
  have HI6 := Lib.hid (hk36.ints HI3.out (by simp; omega)); clear HI3
  have HS6 := Lib.hid (hk36.strs HS3.out (by simp; omega)); clear HS3
  have HB6 : Hid (Below w.heap.size w w6) := HB3.out.trans (hk36.below HB3.out.size (by simp; have := HB3.out.size; omega))
  have HX6 := Lib.hid hx6'; clear hx6' HX
  have HF6 := Lib.hid hf6; clear hf6
  have HE6 := Lib.hid he6; clear he6
  have HL6 := Lib.hid hll2; clear hll2
  have hB3 : w3.heap.size < w6.heap.size := by have := hk6.size; omega
  clear HF HE HL HBI HTX HQ HK45 hk6 hk36 HB3
  go_wp2_with fail
  refine (column_any _ _ _ _ HX6.out).mono ?_
  rintro e w' ⟨rfl, rfl⟩
  go_wp2_with fail
  refine (zzFillModel_any _ _ _ _ zs _ _ _ ss _ _ _ _ HR6.out HS6.out (by omega) (by omega) tx HTE.out hx3.out hx6.out).mono ?_
  rintro e w' ⟨rfl, rfl⟩
  generalize fillEnd (fillTo zs tx a6 a3 a4 len0) a5 = col at *
  obtain ⟨hlc, hcm, _, _, hcell⟩ := HR6.out.open
  obtain ⟨hlc1, hcm1, _, _, hcell1⟩ := HI6.out.open
  obtain ⟨hlc2, hcm2, _, _, hcell2⟩ := HS6.out.open
  unfold maxLen at hcm hcm1 hcm2
  have HC := Lib.hid hcell; clear hcell
  have HC1 := Lib.hid hcell1; clear hcell1
  have HC2 := Lib.hid hcell2; clear hcell2
  clear HR6 HI6 HS6 HX6
  go_wp2_with fail
  go_loopw [17] (fun i wr => ∃ m : Nat, m ≤ len0 ∧ i = .int .i64 m ∧ Kept [] w6 wr) (fun i _ => len0 - (intOf i).toNat)
  case atStart => exact ⟨0, Nat.zero_le _, rfl, Kept.refl _ _⟩
  case round =>
    obtain ⟨m, hm, rfl, hk⟩ := hrel
    by_cases hlt : m < len0
    · obtain ⟨b, o, rfl, hbl, hc⟩ := HC.out m hlt
      have hc0 := hk.cell (hc m (by omega)) (by simp)
      obtain ⟨e, he, ⟨h1, h2, h3, h4, h5⟩, hg⟩ := (HE6.out.kept hk (by simp)) m hlt
      obtain ⟨e', he', q0, q1, q2, q3⟩ := (HF6.out.kept hk (by simp)).cells m (by rw [HL6.out]; exact hlt)
      obtain rfl : e = e' := by rw [he] at he'; simpa using he'
      obtain ⟨tm, htm⟩ : ∃ tm, tx m = tm := ⟨_, rfl⟩
      obtain ⟨im, him⟩ : ∃ im, iv m = im := ⟨_, rfl⟩
      obtain ⟨zm, hzm⟩ : ∃ zm, zs.getD m 0 = zm := ⟨_, rfl⟩
      dsimp only at h3
      rw [hzm] at hc0 h1 h3 h4 h5
      rw [him] at h3
      rw [htm] at h4
      have hI2 : m < len1 → ∃ b1 o1, a1' = some ⟨b1, o1, none⟩ ∧ wr.cell? ⟨b1, o1 + m, none⟩ = some (.int .i64 im) ∧ b1 < wr.heap.size := by
        intro hI
        obtain ⟨b1, o1, ha, hbl1, hc1⟩ := HC1.out m hI
        refine ⟨b1, o1, ha, ?_, Nat.lt_of_lt_of_le hbl1 hk.size⟩
        rw [hk.cell (hc1 m (by omega)) (by simp), ← him, ← HIV.out]
        simp [hI]
      have hI3 : ¬ m < len1 → im = 0 := by intro hI; rw [← him, ← HIV.out]; simp [hI]
      have hC2 : m < len2 → ∃ b1 o1, a2' = some ⟨b1, o1, none⟩ ∧ wr.cell? ⟨b1, o1 + m, none⟩ = some (.string tm) ∧ b1 < wr.heap.size := by
        intro hI
        obtain ⟨b1, o1, ha, hbl1, hc1⟩ := HC2.out m hI
        refine ⟨b1, o1, ha, ?_, Nat.lt_of_lt_of_le hbl1 hk.size⟩
        rw [hk.cell (hc1 m (by omega)) (by simp), ← htm, ← HTE.out]
        simp [hI]
      have hC3 : ¬ m < len2 → tm = ByteArray.empty := by intro hI; rw [← htm, ← HTE.out]; simp [hI]
      have hbw : b < wr.heap.size := Nat.lt_of_lt_of_le hbl hk.size
      have hBw : w3.heap.size < wr.heap.size := Nat.lt_of_lt_of_le hB3 hk.size
      have HK := Lib.hid hk; clear hk
      clear he he' htm him hzm HC HC1 HC2 HIV HTE HE6 HF6 HL6 hc hg
      obtain ⟨eca, ecl, ecc, ek, eb, ei⟩ := e
      dsimp only at *
      by_cases hz : zm = 1
      · subst hz
        rw [if_pos rfl] at h3
        subst h3
        obtain ⟨g, rfl, rfl, rfl, g4, g5, g6⟩ := h4 rfl
        obtain rfl : ek = 1 := h1
        clear h4 h5 h2
        by_cases hI : m < len1
        · obtain ⟨b1, o1, rfl, hcI, hbI⟩ := hI2 hI
          clear hI2 hI3
          by_cases hC : m < len2
          · obtain ⟨b2, o2, rfl, hcC, hbC⟩ := hC2 hC
            clear hC2 hC3
            go_wp2_with fail
            go_roundw
            case rel => exact ⟨m + 1, by omega, by go_num, HK.out.alloc _⟩
            case measure => simp [intOf]; omega
          · obtain rfl := hC3 hC
            clear hC2 hC3
            go_wp2_with fail
            go_roundw
            case rel => exact ⟨m + 1, by omega, by go_num, HK.out.alloc _⟩
            case measure => simp [intOf]; omega
        · obtain rfl := hI3 hI
          clear hI2 hI3
          by_cases hC : m < len2
          · obtain ⟨b2, o2, rfl, hcC, hbC⟩ := hC2 hC
            clear hC2 hC3
            go_wp2_with fail
            go_roundw
            case rel => exact ⟨m + 1, by omega, by go_num, HK.out.alloc _⟩
            case measure => simp [intOf]; omega
          · obtain rfl := hC3 hC
            clear hC2 hC3
            go_wp2_with fail
            go_roundw
            case rel => exact ⟨m + 1, by omega, by go_num, HK.out.alloc _⟩
            case measure => simp [intOf]; omega
      · rw [if_neg hz] at h3
        subst h3
        obtain ⟨rfl, rfl, rfl⟩ := h5 hz
        have hzb : (zm == 1) = false := by simpa using hz
        have hkb : (ek == 1) = false := by rw [h1, kd_one]; exact hzb
        clear h4 h5 hI2 hI3 hC2 hC3 h2 h1
        go_wp2_with fail
        go_roundw
        case rel => exact ⟨m + 1, by omega, by go_num, HK.out.alloc _⟩
        case measure => simp [intOf]; omega
    · have HK := Lib.hid hk; clear hk
      clear HC HC1 HC2
      go_wp2_with fail
      go_ret
      exact ⟨rfl, HB6.out.trans (HK.out.below HB6.out.size (by simp))⟩
end fnFillColumnAndIndentsExact
end Go.Proofs.Ytdnhfboclbpdbaa
