/- The contract of n008_127's zzFillModel, and the plain law that it gives fill's column. -/
import Derived.Test.YtdnhfboclbpdbaaFiSh
namespace Go.Proofs.Ytdnhfboclbpdbaa
open Go.ChangeShapes Go.WideShapes Go.ChangeAt Go.RowKit

/-! The plain law -/
/-- The text of the comments from a on, j of them. -/
def sumT (tx : Nat → ByteArray) (a : Nat) : Nat → Int
  | 0 => 0
  | j + 1 => sumT tx a j + ((tx (a + j)).size : Nat)
/-- .. as the model adds it, with wrapping. -/
def sumW (tx : Nat → ByteArray) (a : Nat) : Nat → Int
  | 0 => 0
  | j + 1 => wrap64 (sumW tx a j + ((tx (a + j)).size : Nat))
theorem sumW_eq (tx : Nat → ByteArray) (a j : Nat) (x : Int) : wrap64 (x + sumW tx a j) = wrap64 (x + sumT tx a j) := by
  induction j generalizing x with
  | zero => rfl
  | succ j ih =>
    simp only [sumW, sumT]
    have := ih (x + ((tx (a + j)).size : Nat))
    have e1 : wrap64 (x + wrap64 (sumW tx a j + ((tx (a + j)).size : Nat))) = wrap64 (x + ((tx (a + j)).size : Nat) + sumW tx a j) := by unfold wrap64; omega
    rw [e1, this]
    congr 1
    omega

def spaces (j : Nat) (cr : Bool) : Int := if j = 0 then 0 else (j : Int) - 1 + (if cr then 1 else 0)

/-- From a on only comments: the column and crowdedness after j of them. -/
theorem fillTo_run (z : List Int) (tx : Nat → ByteArray) (ind c0 : Int) (cr : Bool) (a : Nat) (b : Int) (r : Bool) (ha : fillTo z tx ind c0 cr a = (b, r)) (hb : wrap64 b = b) (j : Nat) (h1 : ∀ i, i < j → z.getD (a + i) 0 = 1) :
    fillTo z tx ind c0 cr (a + j) = (wrap64 (b + sumT tx a j + spaces j r), if j = 0 then r else true) := by
  induction j with
  | zero => simp [sumT, spaces, ha, hb]
  | succ j ih =>
    have ih := ih (fun i hi => h1 i (by omega))
    rw [show a + (j + 1) = (a + j) + 1 from rfl]
    simp only [fillTo, h1 j (by omega), if_true, ih]
    refine Prod.ext ?_ (by simp)
    simp only [sumT]
    generalize ((tx (a + j)).size : Int) = s
    generalize sumT tx a j = t
    by_cases hj : j = 0
    · subst hj
      cases r <;> simp [spaces] <;> unfold wrap64 <;> omega
    · cases r <;> simp [spaces, hj] <;> unfold wrap64 <;> omega

/-- The closed form. -/
def model (b : Int) (r sep : Bool) (s : Int) (k : Nat) : Int :=
  if (sep && (r || decide (0 < k))) = true then wrap64 (wrap64 (wrap64 (b + s) + spaces k r) + 1) else wrap64 (wrap64 (b + s) + spaces k r)

theorem model_eq (z : List Int) (tx : Nat → ByteArray) (ind c0 : Int) (cr sep : Bool) (a : Nat) (b : Int) (r : Bool) (ha : fillTo z tx ind c0 cr a = (b, r)) (hb : wrap64 b = b) (j : Nat) (h1 : ∀ i, i < j → z.getD (a + i) 0 = 1) :
    fillEnd (fillTo z tx ind c0 cr (a + j)) sep = model b r sep (sumW tx a j) j := by
  rw [fillTo_run z tx ind c0 cr a b r ha hb j h1]
  have e : ∀ y, wrap64 (wrap64 (b + sumW tx a j) + y) = wrap64 (b + sumT tx a j + y) := by
    intro y
    rw [sumW_eq]
    unfold wrap64
    omega
  unfold fillEnd model
  rw [e]
  by_cases hj : j = 0
  · subst hj
    simp
  · have : decide (0 < j) = true := by simp; omega
    simp only [hj, if_false, this, Bool.or_true, Bool.and_true]

theorem wrap_idem (x : Int) : wrap64 (wrap64 x) = wrap64 x := by unfold wrap64; omega
theorem sumW_in (tx : Nat → ByteArray) (a j : Nat) : wrap64 (sumW tx a j) = sumW tx a j := by
  cases j with
  | zero => simp [sumW, wrap64]
  | succ j => exact wrap_idem _

/-! The contracts -/
set_option maxRecDepth 100000 in
set_option maxHeartbeats 2000000 in
theorem zzFillModel_nl (w : World) (a : Option Addr) (len cap : Nat) (z : List Int) (a1 : Option Addr) (len1 cap1 : Nat) (ss : List ByteArray) (c0 ind : Int) (cr sep : Bool)
    (h : IsRow .i64 w a len cap z) (h1 : IsStrs w a1 len1 cap1 ss) (hlen : len ≤ 1048576) (hlen1 : len1 ≤ 1048576) (tx : Nat → ByteArray) (htx : (fun j => if j < len1 then ss.getD j ByteArray.empty else ByteArray.empty) = tx)
    (L : Nat) (hL : L < len) (hzL : z.getD L 0 ≠ 1) (hab : ∀ i, L < i → i < len → z.getD i 0 = 1) :
    Calls Try.prog 44 #[.slice a len cap, .slice a1 len1 cap1, .int .i64 c0, .bool cr, .bool sep, .int .i64 ind] w fun e w' => e = .returned (.int .i64 (model ind false sep (sumW tx (L + 1) (len - (L + 1))) (len - (L + 1)))) ∧ w = w' := by
  obtain ⟨hlc, hcm, hzl, _, hcell⟩ := h.open
  obtain ⟨hlc1, hcm1, hzl1, _, hcell1⟩ := h1.open
  clear h h1 hzl hzl1
  unfold maxLen at hcm hcm1
  have HC := Lib.hid hcell; clear hcell
  have HC1 := Lib.hid hcell1; clear hcell1
  have HTX := Lib.hid htx; clear htx
  have HAB := Lib.hid hab; clear hab
  have HZL := Lib.hid hzL; clear hzL
  go_enter Try.func44, Try.ntmps44
  go_wp2_with fail
  go_loop [13, 14] (fun l i => ∃ m : Nat, L ≤ m ∧ m < len ∧ i = .int .i64 m ∧ l = .int .i64 (-1)) (fun _ i => (intOf i).toNat)
  case atStart => exact ⟨len - 1, by omega, by omega, congrArg _ (by omega), rfl⟩
  case round =>
    obtain ⟨m, hm, hml, rfl, rfl⟩ := hrel
    obtain ⟨b, o, rfl, hbl, hc⟩ := HC.out m hml
    have hcm := hc m (by omega)
    by_cases hmL : m = L
    · subst hmL
      have hk : (z.getD m 0 != 1) = true := by simpa using HZL.out
      generalize z.getD m 0 = zm at *
      clear hc HZL HAB
      go_wp2_with fail
      go_loop [17, 18, 19] (fun k s i => ∃ j : Nat, m + 1 + j ≤ len ∧ i = .int .i64 ((m + 1 + j : Nat) : Int) ∧ k = .int .i64 j ∧ s = .int .i64 (sumW tx (m + 1) j)) (fun _ _ i => len - (intOf i).toNat)
      case atStart => exact ⟨0, by omega, by go_num, rfl, rfl⟩
      case round =>
        obtain ⟨j, hj, rfl, rfl, rfl⟩ := hrel
        by_cases hjl : m + 1 + j < len
        · have hsw : sumW tx (m + 1) (j + 1) = wrap64 (sumW tx (m + 1) j + ((tx (m + 1 + j)).size : Nat)) := rfl
          have hsi := sumW_in tx (m + 1) j
          generalize sumW tx (m + 1) j = sj at *
          by_cases hC : m + 1 + j < len1
          · obtain ⟨b1, o1, rfl, hbl1, hc1⟩ := HC1.out (m + 1 + j) hC
            have hc1 := hc1 (m + 1 + j) (by omega)
            have htj : tx (m + 1 + j) = ss.getD (m + 1 + j) ByteArray.empty := by rw [← HTX.out]; simp [hC]
            rw [← htj] at hc1
            generalize tx (m + 1 + j) = tj at *
            have HSW := Lib.hid hsw; clear hsw htj hsi
            clear HC HC1
            go_wp2_with fail
            go_round
            case rel => exact ⟨j + 1, by omega, by go_num, by go_num, by rw [HSW.out]⟩
            case measure => simp [intOf]; omega
          · have htj : tx (m + 1 + j) = ByteArray.empty := by rw [← HTX.out]; simp [hC]
            rw [htj] at hsw
            have hsw : sumW tx (m + 1) (j + 1) = sj := by rw [hsw]; simpa using hsi
            have HSW := Lib.hid hsw; clear hsw htj hsi
            clear HC HC1
            go_wp2_with fail
            go_round
            case rel => exact ⟨j + 1, by omega, by go_num, by go_num, by rw [HSW.out]⟩
            case measure => simp [intOf]; omega
        · have HJE := Lib.hid (show len - (m + 1) = j from by omega)
          generalize hsj : sumW tx (m + 1) j = sj at *
          have HSJ := Lib.hid hsj; clear hsj
          clear HC HC1
          by_cases hj0 : j = 0
          · subst hj0
            cases sep <;> (go_wp2_with fail; go_ret; exact ⟨by rw [HJE.out, HSJ.out]; simp [model, spaces], rfl⟩)
          · have hjp : 0 < j := by omega
            cases sep <;> (go_wp2_with fail; go_ret; exact ⟨by rw [HJE.out, HSJ.out]; simp [model, spaces, hj0, hjp], rfl⟩)
    · have hk : (z.getD m 0 != 1) = false := by rw [HAB.out m (by omega) hml]; rfl
      generalize z.getD m 0 = zm at *
      clear hc HZL HAB HC1
      have hm1 : 1 ≤ m := by omega
      go_wp2_with fail
      go_round
      case rel => exact ⟨m - 1, by omega, by omega, congrArg _ (by omega), rfl⟩
      case measure => simp [intOf]; omega

set_option maxRecDepth 100000 in
set_option maxHeartbeats 2000000 in
theorem zzFillModel_no (w : World) (a : Option Addr) (len cap : Nat) (z : List Int) (a1 : Option Addr) (len1 cap1 : Nat) (ss : List ByteArray) (c0 ind : Int) (cr sep : Bool)
    (h : IsRow .i64 w a len cap z) (h1 : IsStrs w a1 len1 cap1 ss) (hlen : len ≤ 1048576) (_hlen1 : len1 ≤ 1048576) (tx : Nat → ByteArray) (htx : (fun j => if j < len1 then ss.getD j ByteArray.empty else ByteArray.empty) = tx)
    (hab : ∀ i, i < len → z.getD i 0 = 1) :
    Calls Try.prog 44 #[.slice a len cap, .slice a1 len1 cap1, .int .i64 c0, .bool cr, .bool sep, .int .i64 ind] w fun e w' => e = .returned (.int .i64 (model c0 cr sep (sumW tx 0 len) len)) ∧ w = w' := by
  obtain ⟨hlc, hcm, hzl, _, hcell⟩ := h.open
  obtain ⟨hlc1, hcm1, hzl1, _, hcell1⟩ := h1.open
  clear h h1 hzl hzl1
  unfold maxLen at hcm hcm1
  have HC := Lib.hid hcell; clear hcell
  have HC1 := Lib.hid hcell1; clear hcell1
  have HTX := Lib.hid htx; clear htx
  have HAB := Lib.hid hab; clear hab
  go_enter Try.func44, Try.ntmps44
  go_wp2_with fail
  go_loop [13, 14] (fun l i => ∃ m : Nat, m ≤ len ∧ i = .int .i64 ((m : Int) - 1) ∧ l = .int .i64 (-1)) (fun _ i => (intOf i + 1).toNat)
  case atStart => exact ⟨len, Nat.le_refl _, rfl, rfl⟩
  case round =>
    obtain ⟨m, hm, rfl, rfl⟩ := hrel
    by_cases hm0 : m = 0
    · subst hm0
      clear HAB
      go_wp2_with fail
      go_loop [17, 18, 19] (fun k s i => ∃ j : Nat, j ≤ len ∧ i = .int .i64 ((j : Nat) : Int) ∧ k = .int .i64 j ∧ s = .int .i64 (sumW tx 0 j)) (fun _ _ i => len - (intOf i).toNat)
      case atStart => exact ⟨0, by omega, by go_num, rfl, rfl⟩
      case round =>
        obtain ⟨j, hj, rfl, rfl, rfl⟩ := hrel
        by_cases hjl : j < len
        · have hsw : sumW tx 0 (j + 1) = wrap64 (sumW tx 0 j + ((tx (j)).size : Nat)) := by simp only [sumW, Nat.zero_add]
          have hsi := sumW_in tx 0 j
          generalize sumW tx 0 j = sj at *
          by_cases hC : j < len1
          · obtain ⟨b1, o1, rfl, hbl1, hc1⟩ := HC1.out (j) hC
            have hc1 := hc1 (j) (by omega)
            have htj : tx (j) = ss.getD (j) ByteArray.empty := by rw [← HTX.out]; simp [hC]
            rw [← htj] at hc1
            generalize tx (j) = tj at *
            have HSW := Lib.hid hsw; clear hsw htj hsi
            clear HC HC1
            go_wp2_with fail
            go_round
            case rel => exact ⟨j + 1, by omega, by go_num, by go_num, by rw [HSW.out]⟩
            case measure => simp [intOf]; omega
          · have htj : tx (j) = ByteArray.empty := by rw [← HTX.out]; simp [hC]
            rw [htj] at hsw
            have hsw : sumW tx 0 (j + 1) = sj := by rw [hsw]; simpa using hsi
            have HSW := Lib.hid hsw; clear hsw htj hsi
            clear HC HC1
            go_wp2_with fail
            go_round
            case rel => exact ⟨j + 1, by omega, by go_num, by go_num, by rw [HSW.out]⟩
            case measure => simp [intOf]; omega
        · have HJE := Lib.hid (show len = j from by omega)
          generalize hsj : sumW tx 0 j = sj at *
          have HSJ := Lib.hid hsj; clear hsj
          clear HC HC1
          by_cases hj0 : j = 0
          · subst hj0
            cases cr <;> cases sep <;> (go_wp2_with fail; go_ret; exact ⟨by rw [HJE.out, HSJ.out]; simp [model, spaces], rfl⟩)
          · have hjp : 0 < j := by omega
            cases cr <;> cases sep <;> (go_wp2_with fail; go_ret; exact ⟨by rw [HJE.out, HSJ.out]; simp [model, spaces, hj0, hjp], rfl⟩)
    · obtain ⟨n, rfl⟩ : ∃ n, m = n + 1 := ⟨m - 1, by omega⟩
      obtain ⟨b, o, rfl, hbl, hc⟩ := HC.out n (by omega)
      have hcm := hc n (by omega)
      have hk : (z.getD n 0 != 1) = false := by rw [HAB.out n (by omega)]; rfl
      generalize z.getD n 0 = zm at *
      clear hc HAB HC1
      rw [show ((n + 1 : Nat) : Int) - 1 = (n : Int) from by omega]
      go_wp2_with fail
      go_round
      case rel => exact ⟨n, by omega, by go_num, rfl⟩
      case measure => first | (simp [intOf]; done) | (simp [intOf]; omega)
end Go.Proofs.Ytdnhfboclbpdbaa
