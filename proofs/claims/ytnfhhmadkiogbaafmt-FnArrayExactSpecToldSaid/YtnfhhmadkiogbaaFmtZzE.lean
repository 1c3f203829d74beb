/- The contracts of n008_50's zzElemEqB1, zzFodderEqB1, zzFodderIsCodesB1, zzMergeRiskB1. -/
import Derived.Test.YtnfhhmadkiogbaaFmtZz
import Derived.Deep.RegionLaw
namespace Go.Proofs.YtnfhhmadkiogbaaFmt
open Go.ChangeShapes Go.WideShapes Go.ChangeAt Go.RowKit

/-- Two elements that carry no comment and agree in kind, blanks and indent. -/
def SameE (a b : FE) : Prop := a.k = b.k ∧ a.b = b.b ∧ a.i = b.i ∧ a.cl = 0 ∧ b.cl = 0

set_option maxRecDepth 100000 in
set_option maxHeartbeats 1000000 in
theorem zzElemEq_any (w : World) (x y : FE) (h : SameE x y) :
    Calls Tryf.prog 13 #[.agg #[.slice x.ca x.cl x.cc, .int .i64 x.k, .int .i64 x.b, .int .i64 x.i], .agg #[.slice y.ca y.cl y.cc, .int .i64 y.k, .int .i64 y.b, .int .i64 y.i]] w fun e w' =>
      e = .returned (.bool true) ∧ Kept [] w w' := by
  obtain ⟨xa, xl, xc, xk, xb, xi⟩ := x
  obtain ⟨ya, yl, yc, yk, yb, yi⟩ := y
  obtain ⟨h1, h2, h3, h4, h5⟩ := h
  dsimp only at *
  subst h1 h2 h3 h4 h5
  have kk : ∀ o o', Kept [] w ((w.alloc o).alloc o') := fun o o' => ((Kept.refl _ _).alloc _).alloc _
  go_enter Tryf.func13, Tryf.ntmps13
  go_wp2_with fail
  refine wp_loop_rounds 1 ?_
  rw [rounds_succ]
  go_wp2_with fail
  go_ret
  exact ⟨rfl, kk _ _⟩

def SameL (l m : List FE) : Prop := l.length = m.length ∧ ∀ (j : Nat) a b, l[j]? = some a → m[j]? = some b → SameE a b

set_option maxRecDepth 100000 in
set_option maxHeartbeats 4000000 in
theorem zzFodderIsCodes_any (w : World) (base : Nat) (v : Value) (l : List FE) (a1 : Option Addr) (n1 cap1 : Nat) (z1 : List Int) (a2 : Option Addr) (n2 cap2 : Nat) (z2 : List Int) (h : Fod w base v l)
    (h1 : IsRow .i32 w a1 n1 cap1 z1) (h2 : IsRow .i32 w a2 n2 cap2 z2) (hl : l.length = n1 + n2) (hb : n1 + n2 ≤ 4194304)
    (hs1 : ∀ (j : Nat) x, j < n1 → l[j]? = some x → SameE x (cfe (z1.getD j 0))) (hs2 : ∀ (j : Nat) x, j < n2 → l[n1 + j]? = some x → SameE x (cfe (z2.getD j 0))) :
    Calls Tryf.prog 10 #[v, .slice a1 n1 cap1, .slice a2 n2 cap2] w fun e w' => e = .returned (.bool true) ∧ Kept [] w w' := by
  obtain ⟨a, cap, rfl, hlc, hcm, ha⟩ := h.slice
  obtain ⟨hlc1, hcm1, hzl1, _, hcell1⟩ := h1.open
  obtain ⟨hlc2, hcm2, hzl2, _, hcell2⟩ := h2.open
  unfold maxLen at hcm hcm1 hcm2
  clear h1 h2 hzl1 hzl2
  have HC1 := Lib.hid hcell1; clear hcell1
  have HC2 := Lib.hid hcell2; clear hcell2
  have H := Lib.hid h; clear h
  have HA := Lib.hid ha; clear ha
  have HS1 := Lib.hid hs1; clear hs1
  have HS2 := Lib.hid hs2; clear hs2
  rw [hl] at hlc ⊢
  have HN := Lib.hid hl; clear hl
  go_enter Tryf.func10, Tryf.ntmps10
  go_wp2_with fail
  go_loopw [7] (fun i wr => ∃ k : Nat, k ≤ n1 ∧ i = .int .i64 k ∧ Hid (Kept [] w wr)) (fun i _ => n1 - (intOf i).toNat)
  case atStart => exact ⟨0, Nat.zero_le _, rfl, Lib.hid (Kept.refl _ _)⟩
  case round =>
    obtain ⟨k, hk, rfl, HK⟩ := hrel
    by_cases hlt : k < n1
    · obtain ⟨g, rfl, hg1, hg2⟩ := HA.out (k) (by rw [HN.out]; omega)
      obtain ⟨x, hx, c0, c1, c2, c3⟩ := (H.out.kept HK.out (by simp)).cells (k) (by rw [HN.out]; omega)
      obtain ⟨b, o, rfl, hbl, hc⟩ := HC1.out k hlt
      have hcm := HK.out.cell (hc k (by omega)) (by simp)
      have hxy := HS1.out k x hlt hx
      obtain ⟨v, hv⟩ : ∃ v, z1.getD k 0 = v := ⟨_, rfl⟩
      rw [hv] at hcm hxy
      have HXY := Lib.hid hxy; clear hxy hx hc hv
      have hlt2 : (k : Int) < (n1 : Int) + (n2 : Int) := by omega
      go_wp2_with fail
      go_region_law (first | (go_simp; go_at_call 7; refine (zzElem_any _ v).mono ?_; rintro e w2 ⟨rfl, hk2⟩; have c0 := hk2.cell c0 (by simp); have c1 := hk2.cell c1 (by simp); have c2 := hk2.cell c2 (by simp); have c3 := hk2.cell c3 (by simp); have HK2 := Lib.hid hk2; clear hk2) | (go_simp; go_at_call 13; refine (zzElemEq_any _ x (cfe v) HXY.out).mono ?_; rintro e w3 ⟨rfl, hk3⟩; have HK3 := Lib.hid hk3; clear hk3))
      all_goals
        go_wp2_with fail
        exact ⟨⟨k + 1, by omega, by go_num, Lib.hid (((HK.out.drew).trans HK2.out).trans HK3.out)⟩, by simp [intOf]; omega⟩
    · obtain rfl : k = n1 := by omega
      obtain ⟨wo, rfl⟩ : ∃ wo : World, wo = wr := ⟨_, rfl⟩
      clear hlt hk HC1 HS1
      go_wp2_with fail
      go_loopw [8] (fun i wr => ∃ m : Nat, m ≤ n2 ∧ i = .int .i64 m ∧ Hid (Kept [] w wr)) (fun i _ => n2 - (intOf i).toNat)
      case atStart => exact ⟨0, Nat.zero_le _, rfl, HK⟩
      case round =>
        clear HK
        obtain ⟨m, hm, rfl, HL⟩ := hrel
        by_cases hlt : m < n2
        · obtain ⟨g, rfl, hg1, hg2⟩ := HA.out (k + m) (by rw [HN.out]; omega)
          obtain ⟨x, hx, c0, c1, c2, c3⟩ := (H.out.kept HL.out (by simp)).cells (k + m) (by rw [HN.out]; omega)
          obtain ⟨b, o, rfl, hbl, hc⟩ := HC2.out m hlt
          have hcm := HL.out.cell (hc m (by omega)) (by simp)
          have hxy := HS2.out m x hlt hx
          obtain ⟨v, hv⟩ : ∃ v, z2.getD m 0 = v := ⟨_, rfl⟩
          rw [hv] at hcm hxy
          have HXY := Lib.hid hxy; clear hxy hx hc hv
          have hi0 : (0 : Int) ≤ (k : Int) + (m : Int) := by omega
          have hi1 : ((k : Int) + (m : Int)).toNat = k + m := by omega
          have hi2 : IntKind.i64.wrap ((k : Int) + (m : Int)) = (k : Int) + (m : Int) := by rw [IntKind.wrap_i64]; omega
          go_wp2_with fail
          go_region_law (first | (go_simp; go_at_call 7; refine (zzElem_any _ v).mono ?_; rintro e w2 ⟨rfl, hk2⟩; have c0 := hk2.cell c0 (by simp); have c1 := hk2.cell c1 (by simp); have c2 := hk2.cell c2 (by simp); have c3 := hk2.cell c3 (by simp); have HK2 := Lib.hid hk2; clear hk2) | (go_simp; go_at_call 13; refine (zzElemEq_any _ x (cfe v) HXY.out).mono ?_; rintro e w3 ⟨rfl, hk3⟩; have HK3 := Lib.hid hk3; clear hk3))
          all_goals
            go_wp2_with fail
            exact ⟨⟨m + 1, by omega, by go_num, Lib.hid (((HL.out.drew).trans HK2.out).trans HK3.out)⟩, by simp [intOf]; omega⟩
        · obtain rfl : m = n2 := by omega
          go_wp2_with fail
          go_ret
          exact ⟨rfl, HL.out⟩
end Go.Proofs.YtnfhhmadkiogbaaFmt
