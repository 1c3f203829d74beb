/- The contracts of n008_142's small helpers over codes: bytes, bounds, kinds, ends, line breaks, equality. -/
import Derived.Test.YtgdipdbmllkckaaGreatFmtRd
import Derived.Test.YtgdipdbmllkckaaGreatFmtNL
import Derived.Laws.StructEq
namespace Go.Proofs.YtgdipdbmllkckaaGreatFmt
open Go.ChangeShapes Go.WideShapes Go.ChangeAt Go.RowKit

/-- Codes within the bounds. -/
def GoodE (z : ZE) : Prop := (z.k = 0 ∨ z.k = 1 ∨ z.k = 2) ∧ 0 ≤ z.b ∧ z.b ≤ 1099511627776 ∧ 0 ≤ z.c ∧ z.c ≤ 4096
def GoodL (ds : List ZE) : Prop := ∀ z ∈ ds, GoodE z
theorem GoodL.at {ds : List ZE} (h : GoodL ds) {i : Nat} {z : ZE} (hz : ds[i]? = some z) : GoodE z := h z (List.mem_of_getElem? hz)
theorem take_snoc {α : Type} {ds : List α} {k : Nat} {z : α} (h : ds[k]? = some z) : ds.take (k + 1) = ds.take k ++ [z] := by
  rw [List.take_add_one, h]; rfl
theorem GoodL.snoc {ds : List ZE} {k : Nat} {z : ZE} (h : GoodL (ds.take k)) (hz : ds[k]? = some z) (hg : GoodE z) : GoodL (ds.take (k + 1)) := by
  rw [take_snoc hz]
  intro x hx
  rcases List.mem_append.1 hx with hx | hx
  · exact h x hx
  · simp at hx; subst hx; exact hg
theorem GoodL.nil : GoodL [] := fun z hz => by simp at hz

/-- It returns a bool that, if true, says P, and changes nothing that was there. -/
def Tells (P : Prop) (w : World) (e : Ending) (w' : World) : Prop := ∃ b : Bool, e = .returned (.bool b) ∧ Kept [] w w' ∧ (b = true → P)
/-- It returns some int and changes nothing that was there. -/
def SomeInt (w : World) (e : Ending) (w' : World) : Prop := ∃ n : Int, e = .returned (.int .i64 n) ∧ Kept [] w w'
/-- It returns that bool and changes nothing that was there. -/
def Bl (b : Bool) (w : World) (e : Ending) (w' : World) : Prop := e = .returned (.bool b) ∧ Kept [] w w'

set_option maxRecDepth 100000 in
set_option maxHeartbeats 1000000 in
theorem zzElsBytes_any (w : World) (a : Option Addr) (len cap : Nat) (ds : List ZE) (h : RdZ w a len cap ds) : Calls Tryz.prog 7 #[.slice a len cap] w (SomeInt w) := by
  have hle := h.le
  have htop := h.top
  unfold maxLen at htop
  have H := Lib.hid h; clear h
  go_enter Tryz.func7, Tryz.ntmps7
  go_wp2_with fail
  go_loopw [3, 4] (fun c i wr => ∃ (k : Nat) (n : Int), k ≤ len ∧ i = .int .i64 k ∧ c = .int .i64 n ∧ Kept [] w wr) (fun _ i _ => len - (intOf i).toNat)
  case atStart => exact ⟨0, 24, Nat.zero_le _, rfl, rfl, Kept.refl _ _⟩
  case round =>
    obtain ⟨k, n, hk, rfl, rfl, hb⟩ := hrel
    have HB := Lib.hid hb; clear hb
    by_cases hlt : k < len
    · obtain ⟨b, o, z, -, rfl, hbl, -, -, -, c3⟩ := (H.out.kept0 HB.out).cells k hlt
      go_wp2_with fail
      all_goals
        first
        | (go_ret; exact ⟨_, rfl, HB.out⟩)
        | exact ⟨⟨k + 1, _, by omega, by go_num, rfl, HB.out⟩, by simp [intOf]; omega⟩
    · obtain rfl : k = len := by omega
      go_wp2_with fail
      go_ret
      exact ⟨_, rfl, HB.out⟩

set_option maxRecDepth 100000 in
set_option maxHeartbeats 1000000 in
theorem zzElsOK_any (w : World) (a : Option Addr) (len cap : Nat) (ds : List ZE) (h : RdZ w a len cap ds) : Calls Tryz.prog 11 #[.slice a len cap] w (Tells (GoodL ds) w) := by
  have hle := h.le
  have htop := h.top
  have hlen := h.len
  unfold maxLen at htop
  have H := Lib.hid h; clear h
  have HLEN := Lib.hid hlen; clear hlen
  go_enter Tryz.func11, Tryz.ntmps11
  go_wp2_with fail
  go_loopw [3] (fun i wr => ∃ k : Nat, k ≤ len ∧ i = .int .i64 k ∧ Kept [] w wr ∧ GoodL (ds.take k)) (fun i _ => len - (intOf i).toNat)
  case atStart => exact ⟨0, Nat.zero_le _, rfl, Kept.refl _ _, GoodL.nil⟩
  case round =>
    obtain ⟨k, hk, rfl, hb, hg⟩ := hrel
    have HB := Lib.hid hb; clear hb
    have HG := Lib.hid hg; clear hg
    by_cases hlt : k < len
    · obtain ⟨b, o, ⟨zk, zb, zi, zc⟩, hz, rfl, hbl, c0, c1, c2, c3⟩ := (H.out.kept0 HB.out).cells k hlt
      dsimp only at c0 c1 c2 c3
      have HZ := Lib.hid hz; clear hz
      by_cases hg : GoodE ⟨zk, zb, zi, zc⟩
      · obtain ⟨g1, g2, g3, g4, g5⟩ := hg
        dsimp only at g1 g2 g3 g4 g5
        have k0 : ¬ zk < 0 := by omega
        have k1 : ¬ 2 < zk := by omega
        have k2 : ¬ zb < 0 := by omega
        have k3 : ¬ 1099511627776 < zb := by omega
        have k4 : ¬ zc < 0 := by omega
        have k5 : ¬ 4096 < zc := by omega
        have hgs := Lib.hid (HG.out.snoc HZ.out ⟨g1, g2, g3, g4, g5⟩)
        clear g1
        go_wp2_with fail
        exact ⟨⟨k + 1, by omega, by go_num, HB.out.alloc _, hgs.out⟩, by simp [intOf]; omega⟩
      · have hg' : zk < 0 ∨ 2 < zk ∨ zb < 0 ∨ 1099511627776 < zb ∨ zc < 0 ∨ 4096 < zc := by
          unfold GoodE at hg
          dsimp only at hg
          omega
        clear hg
        by_cases k0 : zk < 0
        · go_wp2_with fail
          go_ret
          exact ⟨false, rfl, HB.out.alloc _, by simp⟩
        by_cases k1 : 2 < zk
        · go_wp2_with fail
          go_ret
          exact ⟨false, rfl, HB.out.alloc _, by simp⟩
        by_cases k2 : zb < 0
        · go_wp2_with fail
          go_ret
          exact ⟨false, rfl, HB.out.alloc _, by simp⟩
        by_cases k3 : 1099511627776 < zb
        · go_wp2_with fail
          go_ret
          exact ⟨false, rfl, HB.out.alloc _, by simp⟩
        by_cases k4 : zc < 0
        · go_wp2_with fail
          go_ret
          exact ⟨false, rfl, HB.out.alloc _, by simp⟩
        have k5 : 4096 < zc := by omega
        clear hg'
        go_wp2_with fail
        go_ret
        exact ⟨false, rfl, HB.out.alloc _, by simp⟩
    · obtain rfl : k = len := by omega
      have hgl : GoodL ds := by rw [← List.take_length (l := ds), HLEN.out]; exact HG.out
      go_wp2_with fail
      go_ret
      exact ⟨_, rfl, HB.out, fun _ => hgl⟩

/-- Does the element break the line? -/
def nlE (z : ZE) : Bool := z.k == 0 || (z.k == 2 && (decide (0 < z.c) || decide (0 < z.b)))
def hasNL (ds : List ZE) : Bool := ds.any nlE
theorem hasNL_no {ds : List ZE} (h : ∀ z ∈ ds, nlE z = false) : hasNL ds = false := by
  unfold hasNL
  rw [List.any_eq_false]
  intro z hz
  rw [h z hz]; simp
theorem hasNL_yes {ds : List ZE} {k : Nat} {z : ZE} (hz : ds[k]? = some z) (h : nlE z = true) : hasNL ds = true := by
  unfold hasNL
  rw [List.any_eq_true]
  exact ⟨z, List.mem_of_getElem? hz, h⟩
theorem all_snoc {α : Type} {P : α → Prop} {ds : List α} {k : Nat} {z : α} (h : ∀ x ∈ ds.take k, P x) (hz : ds[k]? = some z) (hg : P z) : ∀ x ∈ ds.take (k + 1), P x := by
  rw [take_snoc hz]
  intro x hx
  rcases List.mem_append.1 hx with hx | hx
  · exact h x hx
  · simp at hx; subst hx; exact hg

set_option maxRecDepth 100000 in
set_option maxHeartbeats 1000000 in
theorem zzHasNewline_any (w : World) (a : Option Addr) (len cap : Nat) (ds : List ZE) (h : RdZ w a len cap ds) : Calls Tryz.prog 15 #[.slice a len cap] w (Bl (hasNL ds) w) := by
  have hle := h.le
  have htop := h.top
  have hlen := h.len
  unfold maxLen at htop
  have H := Lib.hid h; clear h
  have HLEN := Lib.hid hlen; clear hlen
  go_enter Tryz.func15, Tryz.ntmps15
  go_wp2_with fail
  go_loopw [3] (fun i wr => ∃ k : Nat, k ≤ len ∧ i = .int .i64 k ∧ Kept [] w wr ∧ Hid (∀ z ∈ ds.take k, nlE z = false)) (fun i _ => len - (intOf i).toNat)
  case atStart => exact ⟨0, Nat.zero_le _, rfl, Kept.refl _ _, Lib.hid (by simp)⟩
  case round =>
    obtain ⟨k, hk, rfl, hb, HG⟩ := hrel
    have HB := Lib.hid hb; clear hb
    by_cases hlt : k < len
    · obtain ⟨b, o, ⟨zk, zb, zi, zc⟩, hz, rfl, hbl, c0, c1, c2, c3⟩ := (H.out.kept0 HB.out).cells k hlt
      dsimp only at c0 c1 c2 c3
      have HZ := Lib.hid hz; clear hz
      by_cases k0 : zk = 0
      · subst k0
        have hh := hasNL_yes HZ.out rfl
        have HH := Lib.hid hh; clear hh
        go_wp2_with fail
        go_ret
        exact ⟨by rw [HH.out]; rfl, HB.out⟩
      have e0 : (zk == 0) = false := by simpa using k0
      by_cases k2 : zk = 2
      · subst k2
        by_cases kc : 0 < zc
        · have HH := Lib.hid (hasNL_yes HZ.out (by unfold nlE; simp [kc]))
          go_wp2_with fail
          go_ret
          exact ⟨by rw [HH.out]; rfl, HB.out⟩
        by_cases kb : 0 < zb
        · have HH := Lib.hid (hasNL_yes HZ.out (by unfold nlE; simp [kb]))
          go_wp2_with fail
          go_ret
          exact ⟨by rw [HH.out]; rfl, HB.out⟩
        have HN := Lib.hid (all_snoc (P := fun z => nlE z = false) HG.out HZ.out (by unfold nlE; simp [kc, kb]))
        go_wp2_with fail
        exact ⟨⟨k + 1, by omega, by go_num, HB.out, HN⟩, by simp [intOf]; omega⟩
      have e2 : (zk == 2) = false := by simpa using k2
      have HN := Lib.hid (all_snoc (P := fun z => nlE z = false) HG.out HZ.out (by unfold nlE; simp [e0, e2]))
      go_wp2_with fail
      exact ⟨⟨k + 1, by omega, by go_num, HB.out, HN⟩, by simp [intOf]; omega⟩
    · obtain rfl : k = len := by omega
      have hgl : hasNL ds = false := hasNL_no (by have := HG.out; rw [← HLEN.out, List.take_length] at this; exact this)
      have HH := Lib.hid hgl; clear hgl
      go_wp2_with fail
      go_ret
      exact ⟨by rw [HH.out]; rfl, HB.out⟩

/-- Non-empty, and the last element is no comment within a line. -/
def endsC (ds : List ZE) : Bool := match ds.getLast? with | some z => z.k != 1 | none => false
theorem endsC_at {ds : List ZE} {n : Nat} {z : ZE} (hl : ds.length = n + 1) (hz : ds[n]? = some z) : endsC ds = (z.k != 1) := by
  unfold endsC
  rw [List.getLast?_eq_getElem?, hl, Nat.add_sub_cancel, hz]

set_option maxRecDepth 100000 in
set_option maxHeartbeats 1000000 in
theorem zzEndsClean_any (w : World) (a : Option Addr) (len cap : Nat) (ds : List ZE) (h : RdZ w a len cap ds) : Calls Tryz.prog 28 #[.slice a len cap] w fun e w' => e = .returned (.bool (endsC ds)) ∧ w' = w := by
  have hle := h.le
  have htop := h.top
  have hlen := h.len
  unfold maxLen at htop
  by_cases h0 : len = 0
  · subst h0
    obtain rfl : ds = [] := List.length_eq_zero_iff.1 hlen
    clear h
    go_enter Tryz.func28, Tryz.ntmps28
    go_wp2_with fail
    go_ret
    exact ⟨rfl, rfl⟩
  · obtain ⟨n, rfl⟩ : ∃ n, len = n + 1 := ⟨len - 1, by omega⟩
    obtain ⟨b, o, ⟨zk, zb, zi, zc⟩, hz, rfl, hbl, c0, -⟩ := h.cells n (by omega)
    dsimp only at c0
    have hcl := endsC_at hlen hz
    rw [hcl]
    clear h hcl hz hlen
    go_enter Tryz.func28, Tryz.ntmps28
    go_wp2_with fail
    go_ret
    exact ⟨rfl, rfl⟩

theorem zzKind_any (w : World) (k : Int) (hk : k = 0 ∨ k = 1 ∨ k = 2) : Calls Tryz.prog 30 #[.int .i64 k] w fun e w' => e = .returned (.int .i64 k) ∧ w' = w := by
  rcases hk with rfl | rfl | rfl
  all_goals
    go_enter Tryz.func30, Tryz.ntmps30
    go_wp2_with fail
    go_ret
    exact ⟨rfl, rfl⟩
theorem zzKindBack_any (w : World) (k : Int) (hk : k = 0 ∨ k = 1 ∨ k = 2) : Calls Tryz.prog 29 #[.int .i64 k] w fun e w' => e = .returned (.int .i64 k) ∧ w' = w := by
  rcases hk with rfl | rfl | rfl
  all_goals
    go_enter Tryz.func29, Tryz.ntmps29
    go_wp2_with fail
    go_ret
    exact ⟨rfl, rfl⟩
theorem zzIntIs64_any (w : World) : Calls Tryz.prog 8 #[] w fun e w' => e = .returned (.bool true) ∧ w' = w := by
  go_enter Tryz.func8, Tryz.ntmps8
  go_wp2_with fail
  go_ret
  exact ⟨rfl, rfl⟩

theorem Tryz.fieldsZE : Tryz.prog.underlying 81 = some (.struct (Tryz.prog.fieldsOf 81)) := by kernel_rfl
theorem Tryz.stoodZE : Tryz.prog.stoodInHeld 81 = false := by kernel_rfl
set_option maxRecDepth 100000 in
theorem neq_z (w : World) (x : ZE) : (binOp .neq 81 (.agg #[.int .i64 x.k, .int .i64 x.b, .int .i64 x.i, .int .i64 x.c]) (.agg #[.int .i64 x.k, .int .i64 x.b, .int .i64 x.i, .int .i64 x.c])).run Tryz.prog w = .ok (.bool false) w := by
  rw [run_neq_struct, show (10000 : Nat) = 9999 + 1 from rfl, run_equalIn_struct _ _ _ _ _ Tryz.fieldsZE Tryz.stoodZE]
  simp [go_sem, Program.fieldsOf, Tryz.underlying81, Tryz.underlying3, Op.eqFields]

set_option maxRecDepth 100000 in
set_option maxHeartbeats 1000000 in
/-- The same codes are told to be the same. -/
theorem zzElsEqual_same (w : World) (a : Option Addr) (len cap : Nat) (a2 : Option Addr) (len2 cap2 : Nat) (ds : List ZE) (h : RdZ w a len cap ds) (h2 : RdZ w a2 len2 cap2 ds) :
    Calls Tryz.prog 17 #[.slice a len cap, .slice a2 len2 cap2] w (Bl true w) := by
  have hle := h.le
  have htop := h.top
  unfold maxLen at htop
  obtain rfl : len = len2 := h.len.symm.trans h2.len
  have H := Lib.hid h; clear h
  have H2 := Lib.hid h2; clear h2
  go_enter Tryz.func17, Tryz.ntmps17
  go_wp2_with fail
  go_loopw [5] (fun i wr => ∃ k : Nat, k ≤ len ∧ i = .int .i64 k ∧ Kept [] w wr) (fun i _ => len - (intOf i).toNat)
  case atStart => exact ⟨0, Nat.zero_le _, rfl, Kept.refl _ _⟩
  case round =>
    obtain ⟨k, hk, rfl, hb⟩ := hrel
    have HB := Lib.hid hb; clear hb
    by_cases hlt : k < len
    · obtain ⟨b, o, z, hz, rfl, hbl, c0, c1, c2, c3⟩ := (H.out.kept0 HB.out).cells k hlt
      obtain ⟨b2, o2, z2, hz2, rfl, hbl2, d0, d1, d2, d3⟩ := (H2.out.kept0 HB.out).cells k hlt
      obtain rfl : z = z2 := by rw [hz] at hz2; simpa using hz2
      clear hz hz2
      have hnq := fun w => neq_z w z
      go_wp2_with fail
      go_still_tail 8, (by kernel_rfl)
      go_wp2_with fail
      exact ⟨⟨k + 1, by omega, by go_num, HB.out.drew⟩, by simp [intOf]; omega⟩
    · obtain rfl : k = len := by omega
      go_wp2_with fail
      go_ret
      exact ⟨rfl, HB.out⟩
end Go.Proofs.YtgdipdbmllkckaaGreatFmt
