/- The contracts of n008_124's small helpers: zzMode, zzFodderKind, zzKindMode, zzBytes, zzBytes2, zzOK, zzOK2. -/
import Derived.Test.YtfacfgecnpeceaaFmtZ4
import Derived.Test.YtfacfgecnpeceaaFmtNL
namespace Go.Proofs.YtfacfgecnpeceaaFmt
open Go.ChangeShapes Go.WideShapes Go.ChangeAt Go.RowKit

/-- A kind code, brought to 0, 1, 2. -/
def md (k : Int) : Int := if k.tmod 3 < 0 then k.tmod 3 + 3 else k.tmod 3
theorem md_cases (k : Int) : md k = 0 ∨ md k = 1 ∨ md k = 2 := by
  unfold md
  have h1 := Int.tmod_lt_of_pos k (show (0 : Int) < 3 by omega)
  have h2 := Int.lt_tmod_of_pos k (show (0 : Int) < 3 by omega)
  split <;> omega

set_option maxHeartbeats 400000 in
theorem zzMode_any (w : World) (k : Int) : Calls Tryf.prog 15 #[.int .i64 k] w fun e w' => e = .returned (.int .i64 (md k)) ∧ w = w' := by
  have h1 := Int.tmod_lt_of_pos k (show (0 : Int) < 3 by omega)
  have h2 := Int.lt_tmod_of_pos k (show (0 : Int) < 3 by omega)
  obtain ⟨m, hm⟩ : ∃ m, k.tmod 3 = m := ⟨_, rfl⟩
  have hmd : md k = if m < 0 then m + 3 else m := by unfold md; rw [hm]
  rw [hmd]
  rw [hm] at h1 h2
  have hw : wrap64 (m + 3) = m + 3 := by unfold wrap64; omega
  go_enter Tryf.func15, Tryf.ntmps15
  go_wp2_with fail
  all_goals
    go_ret
    exact ⟨rfl, rfl⟩

theorem zzFodderKind_any (w : World) (k : Int) (hk : k = 0 ∨ k = 1 ∨ k = 2) : Calls Tryf.prog 20 #[.int .i64 k] w fun e w' => e = .returned (.int .i64 k) ∧ w = w' := by
  rcases hk with rfl | rfl | rfl
  all_goals
    go_enter Tryf.func20, Tryf.ntmps20
    go_wp2_with fail
    go_ret
    exact ⟨rfl, rfl⟩

theorem zzKindMode_any (w : World) (k : Int) (hk : k = 0 ∨ k = 1 ∨ k = 2) : Calls Tryf.prog 18 #[.int .i64 k] w fun e w' => e = .returned (.int .i64 k) ∧ w = w' := by
  rcases hk with rfl | rfl | rfl
  all_goals
    go_enter Tryf.func18, Tryf.ntmps18
    go_wp2_with fail
    go_ret
    exact ⟨rfl, rfl⟩

/-- Every count of comments lies within the bounds. -/
def GoodZ (len : Nat) (ds : List ZE) : Prop := ∀ (j : Nat) z, j < len → ds[j]? = some z → 0 ≤ z.c ∧ z.c ≤ 4096
def GoodZZ (len : Nat) (ds : List ZRow) : Prop := ∀ (i : Nat) r, i < len → ds[i]? = some r → GoodZ r.l r.ds
/-- It returns a bool that, if true, says P, and changes nothing that was there. -/
def Tells (P : Prop) (w : World) (e : Ending) (w' : World) : Prop := ∃ b : Bool, e = .returned (.bool b) ∧ Kept [] w w' ∧ (b = true → P)

/-- It returns some int and changes nothing that was there. -/
def SomeInt (w : World) (e : Ending) (w' : World) : Prop := ∃ n : Int, e = .returned (.int .i64 n) ∧ Kept [] w w'

set_option maxRecDepth 100000 in
set_option maxHeartbeats 1000000 in
theorem zzBytes_any (w : World) (a : Option Addr) (len cap : Nat) (ds : List ZE) (h : IsZ w a len cap ds) : Calls Tryf.prog 6 #[.slice a len cap] w (SomeInt w) := by
  have hle := h.le
  have htop := h.top
  unfold maxLen at htop
  have H := Lib.hid h; clear h
  go_enter Tryf.func6, Tryf.ntmps6
  go_wp2_with fail
  go_loopw [3, 4] (fun c i wr => ∃ (k : Nat) (n : Int), k ≤ len ∧ i = .int .i64 k ∧ c = .int .i64 n ∧ Kept [] w wr) (fun _ i _ => len - (intOf i).toNat)
  case atStart => exact ⟨0, 0, Nat.zero_le _, rfl, rfl, Kept.refl _ _⟩
  case round =>
    obtain ⟨k, n, hk, rfl, rfl, hb⟩ := hrel
    have HB := Lib.hid hb; clear hb
    by_cases hlt : k < len
    · obtain ⟨b, o, z, -, rfl, hbl, -, -, -, c3⟩ := (H.out.kept HB.out (by simp)).cells k hlt
      go_wp2_with fail
      all_goals
        first
        | (go_ret; exact ⟨_, rfl, HB.out⟩)
        | exact ⟨⟨k + 1, _, by omega, by go_num, rfl, HB.out⟩, by simp [intOf]; omega⟩
    · obtain rfl : k = len := by omega
      go_wp2_with fail
      go_ret
      exact ⟨_, rfl, HB.out⟩

set_option maxRecDepth 100000 in
set_option maxHeartbeats 1000000 in
theorem zzOK_any (w : World) (a : Option Addr) (len cap : Nat) (ds : List ZE) (h : IsZ w a len cap ds) : Calls Tryf.prog 8 #[.slice a len cap] w (Tells (GoodZ len ds) w) := by
  have hle := h.le
  have htop := h.top
  unfold maxLen at htop
  have H := Lib.hid h; clear h
  go_enter Tryf.func8, Tryf.ntmps8
  go_wp2_with fail
  go_loopw [3] (fun i wr => ∃ k : Nat, k ≤ len ∧ i = .int .i64 k ∧ Kept [] w wr ∧ GoodZ k ds) (fun i _ => len - (intOf i).toNat)
  case atStart => exact ⟨0, Nat.zero_le _, rfl, Kept.refl _ _, fun j z hj => by omega⟩
  case round =>
    obtain ⟨k, hk, rfl, hb, hg⟩ := hrel
    have HB := Lib.hid hb; clear hb
    have HG := Lib.hid hg; clear hg
    by_cases hlt : k < len
    · obtain ⟨b, o, z, hz, rfl, hbl, -, -, -, c3⟩ := (H.out.kept HB.out (by simp)).cells k hlt
      have HZ := Lib.hid hz; clear hz
      by_cases hz0 : z.c < 0
      · go_wp2_with fail
        go_ret
        exact ⟨false, rfl, HB.out, by simp⟩
      by_cases hz1 : 4096 < z.c
      · go_wp2_with fail
        go_ret
        exact ⟨false, rfl, HB.out, by simp⟩
      go_wp2_with fail
      refine ⟨⟨k + 1, by omega, by go_num, HB.out, fun j y hj hy => ?_⟩, by simp [intOf]; omega⟩
      by_cases hjk : j < k
      · exact HG.out j y hjk hy
      · obtain rfl : j = k := by omega
        rw [HZ.out] at hy
        obtain rfl : z = y := by simpa using hy
        omega
    · obtain rfl : k = len := by omega
      go_wp2_with fail
      go_ret
      exact ⟨_, rfl, HB.out, fun _ => HG.out⟩

theorem zzMode_still (w : World) (k : Int) : Calls Tryf.prog 15 #[.int .i64 k] w fun e w' => e = .returned (.int .i64 (md k)) ∧ w' = w := (zzMode_any w k).mono fun _ _ h => ⟨h.1, h.2.symm⟩
theorem zzFodderKind_still (w : World) (k : Int) (hk : k = 0 ∨ k = 1 ∨ k = 2) : Calls Tryf.prog 20 #[.int .i64 k] w fun e w' => e = .returned (.int .i64 k) ∧ w' = w := (zzFodderKind_any w k hk).mono fun _ _ h => ⟨h.1, h.2.symm⟩
theorem zzKindMode_still (w : World) (k : Int) (hk : k = 0 ∨ k = 1 ∨ k = 2) : Calls Tryf.prog 18 #[.int .i64 k] w fun e w' => e = .returned (.int .i64 k) ∧ w' = w := (zzKindMode_any w k hk).mono fun _ _ h => ⟨h.1, h.2.symm⟩
end Go.Proofs.YtfacfgecnpeceaaFmt
