/- The contract of n008_2's zzFodder: it makes a fodder whose elements carry the given kinds. -/
import Derived.Test.YtecldheglbojaaaCom
namespace Go.Proofs.Ytecldheglbojaaa
open Go.ChangeShapes Go.WideShapes Go.ChangeAt Go.RowKit

/-- An element that carries a kind alone. -/
def mkK (k : Int) : FE := ⟨none, 0, 0, k, 0, 0⟩

/-- The first m of n elements carry their kinds, the rest are zero. -/
def kTo (z : List Int) (n m : Nat) : List FE := (List.range n).map fun j => if j < m then mkK (z.getD j 0) else FE.zero
theorem kTo_length (z : List Int) (n m : Nat) : (kTo z n m).length = n := by simp [kTo]
theorem kTo_zero (z : List Int) (n : Nat) : kTo z n 0 = List.replicate n FE.zero := by
  apply List.ext_getElem?
  intro j
  simp only [kTo, Nat.not_lt_zero, if_false, List.getElem?_map, List.getElem?_replicate]
  by_cases h : j < n <;> simp [h]
theorem kTo_full (z : List Int) (n : Nat) (h : n ≤ z.length) : kTo z n n = (z.take n).map mkK := by
  apply List.ext_getElem?
  intro j
  simp only [kTo, List.getElem?_map, List.getElem?_take]
  by_cases hj : j < n
  · simp [hj, List.getElem?_eq_getElem (show j < z.length by omega)]
  · simp [hj]
theorem kTo_get (z : List Int) (n m : Nat) (h : m < n) : (kTo z n m)[m]? = some FE.zero := by
  simp [kTo, h]
theorem kTo_set (z : List Int) (n m : Nat) (h : m < n) : (kTo z n m).set m { FE.zero with k := z.getD m 0 } = kTo z n (m + 1) := by
  apply List.ext_getElem?
  intro j
  rw [List.getElem?_set]
  by_cases hj : m = j
  · subst hj
    simp [kTo, h, mkK, FE.zero]
  · rw [if_neg hj]
    simp only [kTo, List.getElem?_map]
    by_cases hn : j < n
    · simp only [List.getElem?_range hn, Option.map_some, Option.some.injEq]
      have : (j < m) = (j < m + 1) := by apply propext; omega
      simp only [this]
    · simp [hn]

set_option maxHeartbeats 400000 in
theorem zzFodder_any (w : World) (a : Option Addr) (len cap : Nat) (z : List Int) (h : IsRow .i64 w a len cap z) (hlen : len ≤ 65536) :
    Calls Try.prog 9 #[.slice a len cap] w fun e w' => ∃ v, e = .returned v ∧ Fod w' w.heap.size v ((z.take len).map mkK) ∧ Below w.heap.size w w' := by
  obtain ⟨hlc, hcm, hzl, _, hcell⟩ := h.open
  clear h
  have HZ := Lib.hid hzl; clear hzl
  unfold maxLen at hcm
  obtain ⟨i0, hi, hz0, hz1, hz2⟩ := info_parts Try.infoFE
  go_enter Try.func9, Try.ntmps9
  go_wp2_with (at_make; refine wpList_make_full _ rfl _ _ 25 rfl w.heap.size 43 i0 _ 4 Try.underlying25 hi hz0 hz1 _ _ _ _ len rfl rfl rfl rfl ?b2 ?b3 (Nat.le_refl _) ?_)
  case b2 => rw [hz2]; omega
  case b3 => unfold maxLen; omega
  intro w1 hown hgrow
  have hf : Fod w1 w.heap.size (.slice (some ⟨w.heap.size, 0, none⟩) len len) (kTo z len 0) := by
    unfold Fod
    rw [kTo_length, kTo_zero, ← made_flat]
    exact hown
  have hb : Below w.heap.size w w1 := (Below.refl _ _).grown hgrow (Nat.le_refl _) (by simp)
  clear hown hgrow hi hz0 hz1 hz2
  have HF := Lib.hid hf; clear hf
  go_wp2
  go_loopw [4] (fun i wr => ∃ m : Nat, m ≤ len ∧ i = .int .i64 m ∧ Fod wr w.heap.size (.slice (some ⟨w.heap.size, 0, none⟩) len len) (kTo z len m) ∧ Below w.heap.size w wr) (fun i _ => len - (intOf i).toNat)
  case atStart => exact ⟨0, Nat.zero_le _, rfl, HF.out, hb⟩
  case round =>
    clear HF hb
    obtain ⟨m, hm, rfl, hf, hb⟩ := hrel
    by_cases hlt : m < len
    · obtain ⟨b, o, rfl, hbl, hc⟩ := hcell m hlt
      have hcm := (hb.cell (p := ⟨b, o + m, none⟩) hbl).trans (hc m (by omega))
      obtain ⟨e, he, c0, c1, c2, c3⟩ := hf.cells m (by rw [kTo_length]; exact hlt)
      have hfr := hf.frozen (m * 4 + 1)
      rw [kTo_get z len m hlt] at he
      obtain rfl : FE.zero = e := by simpa using he
      have hf' := hf.set m FE.zero { FE.zero with k := z.getD m 0 } (kTo_get z len m hlt) 1 (by omega) (.int .i64 (z.getD m 0)) rfl
      rw [kTo_set z len m hlt] at hf'
      generalize z.getD m 0 = zm at *
      have HF := Lib.hid hf'; clear hf' hf he hc hcell
      have hs := hb.size
      clear c0 c2 c3
      go_wp2
      go_roundw
      case rel => exact ⟨m + 1, by omega, by go_num, HF.out, hb.setCell (Nat.le_refl _) _⟩
      case measure => simp [intOf]; omega
    · obtain rfl : m = len := by omega
      rw [kTo_full z m (by rw [HZ.out]; omega)] at hf
      have HF := Lib.hid hf; clear hf
      go_wp2
      go_ret
      exact ⟨_, rfl, HF.out, hb⟩
end Go.Proofs.Ytecldheglbojaaa
