/- The contracts of isGoodLocal, goodLocalOrNull, groupEndsAfter and of its exported name. -/
import Derived.Test.YtddcpnhpjgeldaaG1
import Derived.Test.YtddcpnhpjgeldaaOpC
import Derived.Test.YtddcpnhpjgeldaaD1
namespace Go.Proofs.Ytddcpnhpjgeldaa
open Go.ChangeShapes Go.WideShapes Go.ChangeAt Go.RowKit

/-- A bind: its fodder, its kind (0 an import, 1 a function, else a null), the block behind it, its variable. -/
structure BD where
  vf : Trip
  kd : Nat
  p : Nat
  var : ByteArray
  deriving Inhabited
def BD.body (y : BD) : Value := if y.kd = 0 then .iface 92 (.pointer (some ⟨y.p, 0, none⟩)) else if y.kd = 1 then .nilIface else .iface 78 (.pointer (some ⟨y.p, 0, none⟩))
def BD.fn (y : BD) : Value := .pointer (if y.kd = 1 then some ⟨y.p, 0, none⟩ else none)
def encL (y : BD) : List Value := [y.vf.val, y.body, .slice none 0 0, .string y.var, .slice none 0 0, y.fn, .pointer none, .string ⟨#[]⟩, .int .i64 0, .int .i64 0, .int .i64 0, .int .i64 0]
theorem encL_len (y : BD) : (encL y).length = 12 := rfl
theorem encL_one (y : BD) : ∀ u ∈ encL y, u.oneCell' = true := by
  intro u hu
  have hb : y.body.oneCell' = true := by
    unfold BD.body
    split
    · rfl
    · split <;> rfl
  simp only [encL, List.mem_cons, List.not_mem_nil, or_false] at hu
  rcases hu with rfl | rfl | rfl | rfl | rfl | rfl | rfl | rfl | rfl | rfl | rfl | rfl <;> first | exact hb | rfl
/-- The local at that block if b, else none. -/
def orNil (b : Bool) (nb : Nat) : Value := .pointer (if b then some ⟨nb, 0, none⟩ else none)
def goodB (ys : List BD) : Bool := ys.all (fun y => y.kd == 0)

set_option maxRecDepth 100000 in
set_option maxHeartbeats 4000000 in
theorem isGood_any (w : World) (nb : Nat) (base : Nat) (v : Value) (ys : List BD) (h : OwnR 68 12 encL w base v ys) (hc : w.cell? ⟨nb, 0, none⟩ = some v) :
    Calls Try.prog 39 #[.pointer (some ⟨nb, 0, none⟩)] w (Bl (goodB ys) w) := by
  obtain ⟨a, cap, rfl, hlc, hcm, ha⟩ := h.slice
  unfold maxLen at hcm
  obtain ⟨n, hn⟩ : ∃ n, ys.length = n := ⟨_, rfl⟩
  have H := Lib.hid h; clear h
  have HA := Lib.hid ha; clear ha
  rw [hn] at hlc hc
  have HN := Lib.hid hn; clear hn
  go_enter Try.func39, Try.ntmps39
  go_wp2_with fail
  go_loopw [12] (fun i wr => ∃ k : Nat, k ≤ n ∧ i = .int .i64 k ∧ Kept [] w wr ∧ Hid (∀ y ∈ ys.take k, y.kd = 0)) (fun i _ => n - (intOf i).toNat)
  case atStart => exact ⟨0, Nat.zero_le _, rfl, Kept.refl _ _, Lib.hid (by simp)⟩
  case round =>
    obtain ⟨k, hk, rfl, hb, HK⟩ := hrel
    have HB := Lib.hid hb; clear hb
    by_cases hkn : k < n
    · have hkl : k < ys.length := by rw [HN.out]; exact hkn
      obtain ⟨g, rfl, -, -⟩ := HA.out k hkl
      have hcc := (H.out.kept0 HB.out).cell encL_len k hkl
      obtain ⟨y, hyk⟩ : ∃ y, ys[k] = y := ⟨_, rfl⟩
      rw [hyk] at hcc
      have hyk2 : ys[k]? = some y := by rw [List.getElem?_eq_getElem hkl, hyk]
      have HYK := Lib.hid hyk2; clear hyk2 hyk
      obtain ⟨⟨fa, fn, fc⟩, kd, bp, var⟩ := y
      have e0 := hcc 0 (by omega)
      have e1 := hcc 1 (by omega)
      have e2 := hcc 2 (by omega)
      have e3 := hcc 3 (by omega)
      have e4 := hcc 4 (by omega)
      have e5 := hcc 5 (by omega)
      have e6 := hcc 6 (by omega)
      have e7 := hcc 7 (by omega)
      have e8 := hcc 8 (by omega)
      have e9 := hcc 9 (by omega)
      have e10 := hcc 10 (by omega)
      have e11 := hcc 11 (by omega)
      clear hcc
      simp only [encL, BD.body, BD.fn, Trip.val, Nat.add_zero, List.getElem?_cons_succ, List.getElem?_cons_zero] at e0 e1 e2 e3 e4 e5 e6 e7 e8 e9 e10 e11
      by_cases h0 : kd = 0
      · subst h0
        simp only [if_true, if_false, Nat.zero_ne_one] at e1 e5
        have hnx : ∀ y ∈ ys.take (k + 1), y.kd = 0 := by
          rw [take_snoc HYK.out]
          intro y hy
          rcases List.mem_append.1 hy with h | h
          · exact HK.out y h
          · simp at h; subst h; rfl
        have HNX := Lib.hid hnx; clear hnx HYK
        have ta_y := fun w : World => ta_yes_Import (.pointer (some ⟨bp, 0, none⟩)) 47 w
        go_wp2_with fail
        exact ⟨⟨k + 1, by omega, by go_num, HB.out.alloc _, HNX⟩, by simp [intOf]; omega⟩
      · have hbad : goodB ys = false := by
          unfold goodB
          rw [List.all_eq_false]
          exact ⟨_, List.mem_of_getElem? HYK.out, by simpa using h0⟩
        have HBAD := Lib.hid hbad; clear hbad HYK
        by_cases h1 : kd = 1
        · subst h1
          simp only [if_true, if_false, Nat.one_ne_zero] at e1 e5
          go_wp2_with fail
          go_ret
          exact ⟨by rw [HBAD.out]; rfl, HB.out.alloc _⟩
        · simp only [h0, h1, if_false] at e1 e5
          have ta_n := fun w : World => ta_no_Import 78 (.pointer (some ⟨bp, 0, none⟩)) 47 w (by decide)
          go_wp2_with fail
          go_ret
          exact ⟨by rw [HBAD.out]; rfl, HB.out.alloc _⟩
    · obtain rfl : k = n := by omega
      have hgood : goodB ys = true := by
        unfold goodB
        rw [List.all_eq_true]
        intro y hy
        have := HK.out
        rw [← HN.out, List.take_length] at this
        simpa using this y hy
      have HGO := Lib.hid hgood; clear hgood
      go_wp2_with fail
      go_ret
      exact ⟨by rw [HGO.out]; rfl, HB.out⟩

set_option maxRecDepth 100000 in
set_option maxHeartbeats 4000000 in
theorem goodOrNull_local (w : World) (nb : Nat) (base : Nat) (v : Value) (ys : List BD) (h : OwnR 68 12 encL w base v ys) (hc : w.cell? ⟨nb, 0, none⟩ = some v) :
    Calls Try.prog 37 #[.iface 34 (.pointer (some ⟨nb, 0, none⟩))] w fun e w' => e = .returned (orNil (goodB ys) nb) ∧ Kept [] w w' := by
  have ta_y := fun w : World => ta_yes_Local (.pointer (some ⟨nb, 0, none⟩)) 47 w
  have H := Lib.hid h; clear h
  go_enter Try.func37, Try.ntmps37
  go_wp2_with fail
  refine (isGood_any _ nb base v ys H.out hc).mono ?_
  rintro e w1 ⟨rfl, k1⟩
  have K1 := Lib.hid k1; clear k1
  obtain ⟨g, hg⟩ : ∃ g, goodB ys = g := ⟨_, rfl⟩
  rw [hg]
  have HGG := Lib.hid hg; clear hg
  cases g
  all_goals
    go_wp2_with fail
    go_ret
    exact ⟨by rw [HGG.out]; rfl, K1.out⟩

set_option maxRecDepth 100000 in
theorem goodOrNull_null (w : World) (x : Nat) :
    Calls Try.prog 37 #[.iface 78 (.pointer (some ⟨x, 0, none⟩))] w fun e w' => e = .returned (.pointer none) ∧ w' = w := by
  have ta_n := fun w : World => ta_no_Local 78 (.pointer (some ⟨x, 0, none⟩)) 47 w (by decide)
  go_enter Try.func37, Try.ntmps37
  go_wp2_with fail
  go_ret
  exact ⟨rfl, rfl⟩

set_option maxRecDepth 100000 in
theorem ends_null (w : World) (tb x : Nat) (hc : w.cell? ⟨tb, 1, none⟩ = some (.iface 78 (.pointer (some ⟨x, 0, none⟩)))) :
    Calls Try.prog 31 #[.pointer (some ⟨tb, 0, none⟩)] w (Bl true w) := by
  go_enter Try.func31, Try.ntmps31
  go_wp2_with fail
  refine (goodOrNull_null _ x).mono ?_
  rintro e w1 ⟨rfl, rfl⟩
  go_wp2_with fail
  go_ret
  exact ⟨rfl, Kept.refl _ _⟩

set_option maxRecDepth 100000 in
set_option maxHeartbeats 4000000 in
theorem ends_local (w : World) (tb nb base base2 : Nat) (v : Value) (ys : List BD) (fv : Value) (l : List FE) (hc : w.cell? ⟨tb, 1, none⟩ = some (.iface 34 (.pointer (some ⟨nb, 0, none⟩)))) (h : OwnR 68 12 encL w base v ys) (hc0 : w.cell? ⟨nb, 0, none⟩ = some v) (hc2 : w.cell? ⟨nb, 2, none⟩ = some fv) (hf : Fod w base2 fv l) :
    Calls Try.prog 31 #[.pointer (some ⟨tb, 0, none⟩)] w (Bl (!goodB ys || ends (codes l)) w) := by
  have H := Lib.hid h; clear h
  have HF := Lib.hid hf; clear hf
  have HC0 := Lib.hid hc0; clear hc0
  go_enter Try.func31, Try.ntmps31
  go_wp2_with fail
  refine (goodOrNull_local _ nb base v ys H.out HC0.out).mono ?_
  rintro e w1 ⟨rfl, k1⟩
  have K1 := Lib.hid k1; clear k1
  obtain ⟨g, hg⟩ : ∃ g, goodB ys = g := ⟨_, rfl⟩
  rw [hg]
  have HGG := Lib.hid hg; clear hg
  cases g
  all_goals
    unfold orNil
    simp only [Bool.false_eq_true, if_false, if_true]
  · go_wp2_with fail
    go_ret
    exact ⟨by rw [HGG.out]; rfl, K1.out⟩
  obtain ⟨a, cap, rfl, hlc, hcm, ha⟩ := HF.out.slice
  unfold maxLen at hcm
  obtain ⟨n, hn⟩ : ∃ n, l.length = n := ⟨_, rfl⟩
  have HA := Lib.hid ha; clear ha
  rw [hn] at hlc hc2 HF
  have HN := Lib.hid hn; clear hn
  have c2 := K1.out.cell hc2 (by simp)
  go_wp2_with fail
  refine (openF_Local _ nb).mono ?_
  rintro e w2 ⟨rfl, rfl⟩
  go_wp2_with fail
  go_loopw [4, 20] (fun r i wr => ∃ (b : Bool) (k : Nat), k ≤ n ∧ i = .int .i64 k ∧ r = .bool b ∧ Kept [] w wr ∧ Hid (ends (codes l) = endsG ((codes l).drop k) b)) (fun _ i _ => n - (intOf i).toNat)
  case atStart => exact ⟨false, 0, Nat.zero_le _, rfl, rfl, K1.out, Lib.hid rfl⟩
  case round =>
    clear K1
    obtain ⟨b, k, hk, rfl, rfl, hb, HE⟩ := hrel
    have HB := Lib.hid hb; clear hb
    by_cases hkn : k < n
    · obtain ⟨g, rfl, -, -⟩ := HA.out k (by rw [HN.out]; exact hkn)
      obtain ⟨⟨ca, cl, cc, zk, zb, zi⟩, hz, c0, c1, c2, c3⟩ := (HF.out.kept HB.out (by simp)).cells k (by rw [HN.out]; exact hkn)
      dsimp only at c0 c1 c2 c3
      have hzc : (codes l)[k]? = some ⟨zk, zb, zi, cl⟩ := by rw [List.getElem?_map, hz]; rfl
      have hdr : (codes l).drop k = ⟨zk, zb, zi, cl⟩ :: (codes l).drop (k + 1) := by
        obtain ⟨h1, h2⟩ := List.getElem?_eq_some_iff.1 hzc
        rw [List.drop_eq_getElem_cons h1, h2]
      have he := HE.out
      rw [hdr] at he
      simp only [endsG] at he
      clear hdr hzc hz
      cases b
      · by_cases hb0 : 0 < zb
        · have HEN : Hid (ends (codes l) = true) := Lib.hid (by rw [he]; simp [hb0])
          clear he
          go_wp2_with fail
          go_ret
          exact ⟨by rw [HGG.out, HEN.out]; rfl, HB.out.alloc _⟩
        · by_cases h1 : zk = 1
          · subst h1
            have HEN : Hid (ends (codes l) = endsG ((codes l).drop (k + 1)) false) := Lib.hid (by rw [he]; simp [hb0])
            clear he
            go_wp2_with fail
            exact ⟨⟨false, k + 1, by omega, by go_num, rfl, HB.out.alloc _, HEN⟩, by simp [intOf]; omega⟩
          · have hn1 : (zk == 1) = false := by simpa using h1
            have hn2 : (zk != 1) = true := by simpa using h1
            have HEN : Hid (ends (codes l) = endsG ((codes l).drop (k + 1)) true) := Lib.hid (by rw [he, hn2]; simp [hb0])
            clear he
            go_wp2_with fail
            exact ⟨⟨true, k + 1, by omega, by go_num, rfl, HB.out.alloc _, HEN⟩, by simp [intOf]; omega⟩
      · have HEN : Hid (ends (codes l) = true) := Lib.hid (by rw [he]; simp)
        clear he
        go_wp2_with fail
        all_goals
          go_ret
          exact ⟨by rw [HGG.out, HEN.out]; rfl, HB.out.alloc _⟩
    · obtain rfl : k = n := by omega
      have hdr : (codes l).drop k = [] := List.drop_eq_nil_iff.2 (by rw [List.length_map, HN.out]; exact Nat.le_refl _)
      have he := HE.out
      rw [hdr] at he
      have HEN : Hid (ends (codes l) = false) := Lib.hid (by rw [he]; rfl)
      clear he hdr
      go_wp2_with fail
      go_ret
      exact ⟨by rw [HGG.out, HEN.out]; rfl, HB.out⟩

set_option maxRecDepth 100000 in
theorem endsZ {w : World} {tb : Nat} {b : Bool} (h : Calls Try.prog 31 #[.pointer (some ⟨tb, 0, none⟩)] w (Bl b w)) :
    Calls Try.prog 12 #[.pointer (some ⟨tb, 0, none⟩)] w (Bl b w) := by
  have H := Lib.hid h; clear h
  go_enter Try.func12, Try.ntmps12
  go_wp2_with fail
  refine H.out.mono ?_
  rintro e w1 ⟨rfl, k1⟩
  have K1 := Lib.hid k1; clear k1
  go_wp2_with fail
  go_ret
  exact ⟨rfl, K1.out⟩
end Go.Proofs.Ytddcpnhpjgeldaa
