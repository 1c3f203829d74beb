/- The contract of n008_50's zzMergeRiskB1; joins without risk. -/
import Derived.Test.YtnfhhmadkiogbaaFmtZzE
namespace Go.Proofs.YtnfhhmadkiogbaaFmt
open Go.ChangeShapes Go.WideShapes Go.ChangeAt Go.RowKit

/-- Would a fodder slide before one that opens a line? -/
def risk (sl : Bool) (n1 n2 : Nat) (z2 : List Int) : Bool := sl && (decide (0 < n1) && (decide (0 < n2) && (ck (z2.getD 0 0) != 1)))

set_option maxRecDepth 100000 in
set_option maxHeartbeats 1000000 in
theorem zzMergeRisk_any (w : World) (sl : Bool) (a1 : Option Addr) (n1 cap1 : Nat) (a2 : Option Addr) (n2 cap2 : Nat) (z2 : List Int) (h2 : IsRow .i32 w a2 n2 cap2 z2) (hn1 : n1 ≤ 65536) (hn2 : n2 ≤ 65536) :
    Calls Tryf.prog 6 #[.bool sl, .slice a1 n1 cap1, .slice a2 n2 cap2] w fun e w' => e = .returned (.bool (risk sl n1 n2 z2)) ∧ w = w' := by
  obtain ⟨hlc2, hcm2, hzl2, _, hcell2⟩ := h2.open
  clear h2
  have HC := Lib.hid hcell2; clear hcell2
  obtain ⟨R, hR⟩ : ∃ R, risk sl n1 n2 z2 = R := ⟨_, rfl⟩
  rw [hR]
  cases sl
  · obtain rfl : false = R := hR
    go_enter Tryf.func6, Tryf.ntmps6
    go_wp2_with fail
    go_ret
    exact ⟨rfl, rfl⟩
  by_cases h1 : 0 < n1
  · by_cases h3 : 0 < n2
    · obtain ⟨b, o, rfl, hbl, hc⟩ := HC.out 0 h3
      have hcm := hc 0 (by omega)
      obtain ⟨v, hv⟩ : ∃ v, z2.getD 0 0 = v := ⟨_, rfl⟩
      rw [hv] at hcm
      rw [Nat.add_zero] at hcm
      have hR' : (ck v != 1) = R := by rw [← hR]; simp [risk, h1, h3, ← hv]
      have HR := Lib.hid hR'; clear hR hR' hc hv
      have h1' : (0 : Int) < (n1 : Int) := by omega
      have h3' : (0 : Int) < (n2 : Int) := by omega
      go_enter Tryf.func6, Tryf.ntmps6
      go_wp2_with fail
      refine (zzKind_any _ v).mono ?_
      rintro e w' ⟨rfl, rfl⟩
      obtain ⟨c, hc⟩ : ∃ c, ck v = c := ⟨_, rfl⟩
      rw [hc]
      have hcR := HR.out
      rw [hc] at hcR
      clear hc
      have HR2 := Lib.hid hcR; clear hcR
      go_wp2_with fail
      go_ret
      exact ⟨by rw [← HR2.out]; rfl, rfl⟩
    · obtain rfl : n2 = 0 := by omega
      obtain rfl : false = R := by rw [← hR]; simp [risk]
      clear hR
      have h1' : (0 : Int) < (n1 : Int) := by omega
      go_enter Tryf.func6, Tryf.ntmps6
      go_wp2_with fail
      go_ret
      exact ⟨rfl, rfl⟩
  · obtain rfl : n1 = 0 := by omega
    obtain rfl : false = R := by rw [← hR]; simp [risk]
    clear hR
    go_enter Tryf.func6, Tryf.ntmps6
    go_wp2_with fail
    go_ret
    exact ⟨rfl, rfl⟩

/-- Where there is no risk the join is the two, one behind the other. -/
theorem conc_plain {z1 z2 : List Int} {n1 n2 : Nat} {l : List FE} (hz1 : n1 ≤ z1.length) (hz2 : n2 ≤ z2.length) (hr : risk true n1 n2 z2 = false) (h : Conc ((z1.take n1).map cfe) ((z2.take n2).map cfe) l) :
    l = (z1.take n1).map cfe ++ (z2.take n2).map cfe := by
  rcases h with ⟨h1, rfl⟩ | ⟨h1, rfl⟩ | ⟨x, t, m, h0, hb, hs, rfl⟩
  · rw [h1]; rfl
  · rw [h1, List.append_nil]
  · have hn1 : 0 < n1 := by
      rcases Nat.eq_zero_or_pos n1 with h | h
      · subst h; simp at h0
      · exact h
    have hn2 : 0 < n2 := by
      rcases Nat.eq_zero_or_pos n2 with h | h
      · subst h; simp at hb
      · exact h
    have hx : x = cfe (z2.getD 0 0) := by
      have : ((z2.take n2).map cfe)[0]? = some x := by rw [hb]; rfl
      rw [List.getElem?_map, List.getElem?_take, if_pos hn2, List.getElem?_eq_getElem (by omega)] at this
      rw [List.getD_eq_getElem?_getD, List.getElem?_eq_getElem (show 0 < z2.length by omega)]
      simpa using this.symm
    have hk : x.k = 1 := by
      simp [risk, hn1, hn2] at hr
      rw [hx]
      exact hr
    have hm : m = (z1.take n1).map cfe ++ [x] := by
      rcases hs with ⟨_, hk0, _⟩ | ⟨_, hk2, _⟩ | ⟨_, _, h⟩
      · rw [hk] at hk0; cases hk0
      · rw [hk] at hk2; cases hk2
      · exact h
    rw [hm, hb]
    simp

theorem codes_same (z : List Int) (n : Nat) (j : Nat) (x : FE) (hz : n ≤ z.length) (hj : j < n) (hx : ((z.take n).map cfe)[j]? = some x) : SameE x (cfe (z.getD j 0)) := by
  rw [List.getElem?_map, List.getElem?_take, if_pos hj, List.getElem?_eq_getElem (by omega)] at hx
  rw [List.getD_eq_getElem?_getD, List.getElem?_eq_getElem (show j < z.length by omega)]
  simp at hx
  subst hx
  exact ⟨rfl, rfl, rfl, rfl, rfl⟩

theorem cfe_head (z : List Int) (n : Nat) : ∀ x, ((z.take n).map cfe)[0]? = some x → x.k = 0 → x.cl = 0 := fun x hx _ => by
  obtain ⟨y, -, rfl⟩ := List.mem_map.1 (List.mem_of_getElem? hx)
  rfl
end Go.Proofs.YtnfhhmadkiogbaaFmt
