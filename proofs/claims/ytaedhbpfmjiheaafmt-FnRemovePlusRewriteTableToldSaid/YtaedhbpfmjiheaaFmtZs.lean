/- The contracts of n008_22's readers; what a laid fodder and a joined one read as. -/
import Derived.Test.YtaedhbpfmjiheaaFmtZr
namespace Go.Proofs.YtaedhbpfmjiheaaFmt
open Go.ChangeShapes Go.WideShapes Go.ChangeAt Go.RowKit

def sumB (l : List FE) : Int := (l.map (·.b)).sum
def cntC (l : List FE) : Nat := l.countP (fun x => decide (0 < x.cl))
def Small (l : List FE) : Prop := ∀ x ∈ l, 0 ≤ x.b ∧ x.b ≤ 4
theorem sumB_snoc (l : List FE) (x : FE) : sumB (l ++ [x]) = sumB l + x.b := by simp [sumB]
theorem cntC_snoc (l : List FE) (x : FE) : cntC (l ++ [x]) = cntC l + (if 0 < x.cl then 1 else 0) := by
  unfold cntC
  rw [List.countP_append]
  by_cases h : 0 < x.cl <;> simp [h]
theorem sumB_le {l : List FE} (h : Small l) : 0 ≤ sumB l ∧ sumB l ≤ 4 * l.length := by
  induction l with
  | nil => simp [sumB]
  | cons x l ih =>
    have h1 := ih (fun y hy => h y (List.mem_cons_of_mem _ hy))
    have h2 := h x (List.mem_cons_self ..)
    simp only [sumB, List.map_cons, List.sum_cons, List.length_cons] at h1 ⊢
    omega
theorem Small.take {l : List FE} (h : Small l) (n : Nat) : Small (l.take n) := fun x hx => h x (List.mem_of_mem_take hx)
theorem take_snocE {α : Type} {l : List α} {m : Nat} {x : α} (h : l[m]? = some x) : l.take (m + 1) = l.take m ++ [x] := by
  rw [List.take_add_one, h]; rfl

set_option maxRecDepth 100000 in
theorem zzBlanks_any (w : World) (base : Nat) (v : Value) (l : List FE) (h : Fod w base v l) (hs : Small l) (hlen : l.length ≤ 1048576) : Calls Tryf.prog 7 #[v] w fun e w' => e = .returned (.int .i64 (sumB l)) ∧ w' = w := by
  obtain ⟨fa, fc, rfl, hlc, hcm, ha⟩ := h.slice
  unfold maxLen at hcm
  obtain ⟨n, hn⟩ : ∃ n, l.length = n := ⟨_, rfl⟩
  have H := Lib.hid h; clear h
  have HA := Lib.hid ha; clear ha
  have HS := Lib.hid hs; clear hs
  rw [hn] at hlc hlen ⊢
  have HN := Lib.hid hn; clear hn
  go_enter Tryf.func7, Tryf.ntmps7
  go_wp2
  go_loopw [3, 4] (fun s i wr => ∃ m : Nat, m ≤ n ∧ i = .int .i64 m ∧ s = .int .i64 (sumB (l.take m)) ∧ wr = w) (fun _ i _ => n - (intOf i).toNat)
  case atStart => exact ⟨0, Nat.zero_le _, rfl, by simp [sumB], rfl⟩
  case round =>
    obtain ⟨m, hm, rfl, rfl, rfl⟩ := hrel
    by_cases hlt : m < n
    · obtain ⟨g, rfl, hg1, hg2⟩ := HA.out m (by rw [HN.out]; exact hlt)
      obtain ⟨⟨ca, cl, cc, zk, zb, zi⟩, hz, c0, c1, c2, c3⟩ := H.out.cells m (by rw [HN.out]; exact hlt)
      dsimp only at c0 c1 c2 c3
      have h1 := sumB_le (HS.out.take m)
      have h2 := HS.out _ (List.mem_of_getElem? hz)
      have h3 : (l.take m).length ≤ n := by rw [List.length_take]; omega
      have h4 : sumB (l.take (m + 1)) = sumB (l.take m) + zb := by rw [take_snocE hz, sumB_snoc]
      obtain ⟨S, hS⟩ : ∃ S, sumB (l.take m) = S := ⟨_, rfl⟩
      rw [hS] at h1 h4 ⊢
      dsimp only at h2
      have H4 := Lib.hid h4
      have b1 : -9223372036854775808 ≤ S + zb := by omega
      have b2 : S + zb ≤ 9223372036854775807 := by omega
      have i1 : (0 : Int) ≤ (m : Int) := by omega
      have i2 : (m : Int) < (n : Int) := by omega
      clear hz hS h4 c0 c1 c3 h3
      go_wp2_with fail
      exact ⟨⟨m + 1, by omega, by go_num, by rw [H4.out], by trivial⟩, by simp [intOf]; omega⟩
    · obtain rfl : m = n := by omega
      have hT : l.take m = l := by rw [← HN.out, List.take_length]
      rw [hT]
      clear hT
      go_wp2
      go_ret
      exact ⟨rfl, rfl⟩

set_option maxRecDepth 100000 in
theorem zzComments_any (w : World) (base : Nat) (v : Value) (l : List FE) (h : Fod w base v l) (hlen : l.length ≤ 1048576) : Calls Tryf.prog 9 #[v] w fun e w' => e = .returned (.int .i64 (cntC l : Int)) ∧ w' = w := by
  obtain ⟨fa, fc, rfl, hlc, hcm, ha⟩ := h.slice
  unfold maxLen at hcm
  obtain ⟨n, hn⟩ : ∃ n, l.length = n := ⟨_, rfl⟩
  have H := Lib.hid h; clear h
  have HA := Lib.hid ha; clear ha
  rw [hn] at hlc hlen ⊢
  have HN := Lib.hid hn; clear hn
  go_enter Tryf.func9, Tryf.ntmps9
  go_wp2
  go_loopw [3, 4] (fun s i wr => ∃ m : Nat, m ≤ n ∧ i = .int .i64 m ∧ s = .int .i64 (cntC (l.take m) : Int) ∧ wr = w) (fun _ i _ => n - (intOf i).toNat)
  case atStart => exact ⟨0, Nat.zero_le _, rfl, by simp [cntC], rfl⟩
  case round =>
    obtain ⟨m, hm, rfl, rfl, rfl⟩ := hrel
    by_cases hlt : m < n
    · obtain ⟨g, rfl, hg1, hg2⟩ := HA.out m (by rw [HN.out]; exact hlt)
      obtain ⟨⟨ca, cl, cc, zk, zb, zi⟩, hz, c0, c1, c2, c3⟩ := H.out.cells m (by rw [HN.out]; exact hlt)
      dsimp only at c0 c1 c2 c3
      have h3 : cntC (l.take m) ≤ m := by
        have := List.countP_le_length (p := fun x : FE => decide (0 < x.cl)) (l := l.take m)
        rw [List.length_take] at this
        unfold cntC
        omega
      have h4 : cntC (l.take (m + 1)) = cntC (l.take m) + (if 0 < cl then 1 else 0) := by rw [take_snocE hz, cntC_snoc]
      obtain ⟨S, hS⟩ : ∃ S, cntC (l.take m) = S := ⟨_, rfl⟩
      rw [hS] at h3 h4 ⊢
      have H4 := Lib.hid h4
      have i1 : (0 : Int) ≤ (m : Int) := by omega
      have i2 : (m : Int) < (n : Int) := by omega
      clear hz hS h4 c1 c2 c3
      by_cases hc : 0 < cl
      · go_wp2_with fail
        exact ⟨⟨m + 1, by omega, by go_num, by rw [H4.out, if_pos hc]; go_num, by trivial⟩, by simp [intOf]; omega⟩
      · obtain rfl : cl = 0 := by omega
        go_wp2_with fail
        exact ⟨⟨m + 1, by omega, by go_num, by rw [H4.out, if_neg hc]; rfl, by trivial⟩, by simp [intOf]; omega⟩
    · obtain rfl : m = n := by omega
      have hT : l.take m = l := by rw [← HN.out, List.take_length]
      rw [hT]
      clear hT
      go_wp2
      go_ret
      exact ⟨rfl, rfl⟩

/-- Blank lines and comments of a laid fodder; the length of a joined one. -/
def bB (n : Nat) (k : Int) : Int := if 0 < n ∧ k = 1 then (n : Int) - 1 else n
def bC (n : Nat) (k : Int) : Int := if 0 < n ∧ k ≠ 0 then 1 else 0
def cL (a b : Nat) (x y : Int) : Int := if a = 0 ∨ b = 0 then (a : Int) + b else if x ≠ 1 ∧ y = 0 then (a : Int) + b - 1 else if x = 1 ∧ y = 2 then (a : Int) + b + 1 else (a : Int) + b
theorem zzBuiltBlanks_any (w : World) (n : Nat) (k : Int) (hn : n ≤ 4096) : Calls Tryf.prog 8 #[.int .i64 (n : Int), .int .i64 k] w fun e w' => e = .returned (.int .i64 (bB n k)) ∧ w' = w := by
  unfold bB
  by_cases h0 : n = 0
  · subst h0
    rw [if_neg (by omega)]
    go_enter Tryf.func8, Tryf.ntmps8
    go_wp2
    go_ret
    exact ⟨rfl, rfl⟩
  have e0 : (0 : Int) < (n : Int) := by omega
  by_cases h1 : k = 1
  · subst h1
    rw [if_pos ⟨by omega, rfl⟩]
    have e1 : wrap64 ((n : Int) - 1) = (n : Int) - 1 := (by unfold wrap64; omega)
    go_enter Tryf.func8, Tryf.ntmps8
    go_wp2
    go_ret
    exact ⟨by first | rfl | (refine congrArg (fun z => Ending.returned (Value.int .i64 z)) ?_; first | omega | simp_all), rfl⟩
  · rw [if_neg (by omega)]
    have e1 : (k == 1) = false := by simpa using h1
    go_enter Tryf.func8, Tryf.ntmps8
    go_wp2
    go_ret
    exact ⟨rfl, rfl⟩
theorem zzBuiltComments_any (w : World) (n : Nat) (k : Int) (hn : n ≤ 4096) : Calls Tryf.prog 10 #[.int .i64 (n : Int), .int .i64 k] w fun e w' => e = .returned (.int .i64 (bC n k)) ∧ w' = w := by
  unfold bC
  by_cases h0 : n = 0
  · subst h0
    rw [if_neg (by omega)]
    go_enter Tryf.func10, Tryf.ntmps10
    go_wp2
    go_ret
    exact ⟨rfl, rfl⟩
  have e0 : (0 : Int) < (n : Int) := by omega
  by_cases h1 : k = 0
  · subst h1
    rw [if_neg (by omega)]
    go_enter Tryf.func10, Tryf.ntmps10
    go_wp2
    go_ret
    exact ⟨rfl, rfl⟩
  · rw [if_pos ⟨by omega, h1⟩]
    have e1 : (k == 0) = false := by simpa using h1
    go_enter Tryf.func10, Tryf.ntmps10
    go_wp2
    go_ret
    exact ⟨rfl, rfl⟩
theorem zzConcatLen_any (w : World) (a b : Nat) (x y : Int) (ha : a ≤ 4096) (hb : b ≤ 4096) : Calls Tryf.prog 11 #[.int .i64 (a : Int), .int .i64 (b : Int), .int .i64 x, .int .i64 y] w fun e w' => e = .returned (.int .i64 (cL a b x y)) ∧ w' = w := by
  unfold cL
  have s0 : wrap64 ((a : Int) + b) = (a : Int) + b := (by unfold wrap64; omega)
  have s1 : wrap64 ((a : Int) + b - 1) = (a : Int) + b - 1 := (by unfold wrap64; omega)
  have s2 : wrap64 ((a : Int) + b + 1) = (a : Int) + b + 1 := (by unfold wrap64; omega)
  by_cases h0 : a = 0
  · subst h0
    rw [if_pos (Or.inl rfl)]
    go_enter Tryf.func11, Tryf.ntmps11
    go_wp2
    go_ret
    exact ⟨by first | rfl | (refine congrArg (fun z => Ending.returned (Value.int .i64 z)) ?_; first | omega | simp_all), rfl⟩
  have e0 : ((a : Int) == 0) = false := by simpa using h0
  by_cases h1 : b = 0
  · subst h1
    rw [if_pos (Or.inr rfl)]
    go_enter Tryf.func11, Tryf.ntmps11
    go_wp2
    go_ret
    exact ⟨by first | rfl | (refine congrArg (fun z => Ending.returned (Value.int .i64 z)) ?_; first | omega | simp_all), rfl⟩
  have e1 : ((b : Int) == 0) = false := by simpa using h1
  rw [if_neg (by omega)]
  by_cases hx : x = 1
  · subst hx
    rw [if_neg (by omega)]
    by_cases hy : y = 2
    · subst hy
      rw [if_pos ⟨rfl, rfl⟩]
      go_enter Tryf.func11, Tryf.ntmps11
      go_wp2
      go_ret
      exact ⟨by first | rfl | (refine congrArg (fun z => Ending.returned (Value.int .i64 z)) ?_; first | omega | simp_all), rfl⟩
    · rw [if_neg (by omega)]
      have e2 : (y == 2) = false := by simpa using hy
      go_enter Tryf.func11, Tryf.ntmps11
      go_wp2
      go_ret
      exact ⟨by first | rfl | (refine congrArg (fun z => Ending.returned (Value.int .i64 z)) ?_; first | omega | simp_all), rfl⟩
  · have e2 : (x == 1) = false := by simpa using hx
    by_cases hy : y = 0
    · subst hy
      rw [if_pos ⟨hx, rfl⟩]
      go_enter Tryf.func11, Tryf.ntmps11
      go_wp2
      go_ret
      exact ⟨by first | rfl | (refine congrArg (fun z => Ending.returned (Value.int .i64 z)) ?_; first | omega | simp_all), rfl⟩
    · rw [if_neg (by omega), if_neg (by omega)]
      have e3 : (y == 0) = false := by simpa using hy
      go_enter Tryf.func11, Tryf.ntmps11
      go_wp2
      go_ret
      exact ⟨by first | rfl | (refine congrArg (fun z => Ending.returned (Value.int .i64 z)) ?_; first | omega | simp_all), rfl⟩
end Go.Proofs.YtaedhbpfmjiheaaFmt
