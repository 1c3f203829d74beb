/- The contracts of n008_142's further helpers over levels: bounds, empty paragraphs, line breaks. -/
import Derived.Test.YtgdipdbmllkckaaGreatFmtSB
namespace Go.Proofs.YtgdipdbmllkckaaGreatFmt
open Go.ChangeShapes Go.WideShapes Go.ChangeAt Go.RowKit

/-- No paragraph without a comment and without a blank line. -/
def noEP (ds : List ZE) : Prop := ∀ z ∈ ds, ¬ (z.k = 2 ∧ z.c = 0 ∧ z.b = 0)
def NoSp (s : SE) : Prop := noEP s.f ∧ ∀ d ∈ s.ifs, noEP d


set_option maxRecDepth 100000 in
set_option maxHeartbeats 2000000 in
theorem zzSpecsOK_any (w : World) (a : Option Addr) (len cap : Nat) (ds : List SE) (h : RdS w a len cap ds) : Calls Tryz.prog 10 #[.slice a len cap] w (Tells (∀ s ∈ ds, GoodSp s) w) := by
  have hle := h.le
  have htop := h.top
  have hdl := h.len
  unfold maxLen at htop
  have HDL := Lib.hid hdl; clear hdl
  have H := Lib.hid h; clear h
  go_enter Tryz.func10, Tryz.ntmps10
  go_wp2_with fail
  go_loopw [3] (fun i wr => ∃ k : Nat, k ≤ len ∧ i = .int .i64 k ∧ Kept [] w wr ∧ Hid (∀ s ∈ ds.take k, GoodSp s)) (fun i _ => len - (intOf i).toNat)
  case atStart => exact ⟨0, Nat.zero_le _, rfl, Kept.refl _ _, Lib.hid (by simp)⟩
  case round =>
    obtain ⟨k, hk, rfl, hb, HG⟩ := hrel
    have HB := Lib.hid hb; clear hb
    by_cases hlt : k < len
    · obtain ⟨b, o, s, a1, l1, c1, a2, l2, c2, hs, rfl, hbl, q1, q2, h1, h2⟩ := (H.out.kept0 HB.out).sp k hlt
      have hle2 := h2.le
      have htop2 := h2.top
      have hl2 := h2.len
      unfold maxLen at htop2
      have HL2 := Lib.hid hl2; clear hl2
      have H1 := Lib.hid h1; clear h1
      have H2 := Lib.hid h2; clear h2
      have HS := Lib.hid hs; clear hs
      go_wp2_with fail
      refine (zzElsOK_any _ a1 l1 c1 _ H1.out).mono ?_
      rintro e w1 ⟨t1, rfl, k1, hg1⟩
      have K1 := Lib.hid k1; clear k1
      cases t1
      · clear hg1
        go_wp2_with fail
        go_ret
        exact ⟨false, rfl, HB.out.trans K1.out, by simp⟩
      have HG1 := Lib.hid (hg1 rfl); clear hg1
      go_wp2_with fail
      go_loopw [4] (fun i wq => ∃ j : Nat, j ≤ l2 ∧ i = .int .i64 j ∧ Kept [] wr wq ∧ Hid (∀ d ∈ s.ifs.take j, GoodL d)) (fun i _ => l2 - (intOf i).toNat)
      case atStart => exact ⟨0, Nat.zero_le _, rfl, K1.out, Lib.hid (by simp)⟩
      case round =>
        obtain ⟨j, hj, rfl, hb, HGJ⟩ := hrel
        have KQ := Lib.hid hb; clear hb
        have q1' := KQ.out.cell q1 (by simp)
        have q2' := KQ.out.cell q2 (by simp)
        have q1 := Lib.hid q1
        have q2 := Lib.hid q2
        by_cases hjt : j < l2
        · obtain ⟨b3, o3, r, ra, rl, rc, hr, rfl, hb3, d0, hrz⟩ := (H2.out.kept0 KQ.out).row j hjt
          have HRZ := Lib.hid hrz; clear hrz
          have HR := Lib.hid hr; clear hr
          go_wp2_with fail
          refine (zzElsOK_any _ ra rl rc _ HRZ.out).mono ?_
          rintro e w3 ⟨t3, rfl, k3, hg3⟩
          have K3 := Lib.hid (KQ.out.trans k3); clear k3
          cases t3
          · clear hg3
            go_wp2_with fail
            go_ret
            exact ⟨false, rfl, HB.out.trans K3.out, by simp⟩
          have HN := Lib.hid (all_snoc (P := GoodL) HGJ.out HR.out (hg3 rfl)); clear hg3
          go_wp2_with fail
          exact ⟨⟨j + 1, by omega, by go_num, K3.out, HN⟩, by simp [intOf]; omega⟩
        · obtain rfl : j = l2 := by omega
          have hn : GoodSp s := ⟨HG1.out, by have := HGJ.out; rw [← HL2.out, List.take_length] at this; exact this⟩
          have HN := Lib.hid (all_snoc (P := GoodSp) HG.out HS.out hn); clear hn
          go_wp2_with fail
          exact ⟨⟨k + 1, by omega, by go_num, HB.out.trans KQ.out, HN⟩, by simp [intOf]; omega⟩
    · obtain rfl : k = len := by omega
      go_wp2_with fail
      go_ret
      exact ⟨true, rfl, HB.out, fun _ => by have := HG.out; rw [← HDL.out, List.take_length] at this; exact this⟩

/-- Does a level hold a line break? -/
def spNL (s : SE) : Bool := hasNL s.f || s.ifs.any hasNL
def specsNL (ds : List SE) : Bool := ds.any spNL
theorem spNL_if {s : SE} {j : Nat} {d : List ZE} (h : s.ifs[j]? = some d) (hd : hasNL d = true) : spNL s = true := by
  unfold spNL
  rw [Bool.or_eq_true, List.any_eq_true]
  exact Or.inr ⟨d, List.mem_of_getElem? h, hd⟩
theorem spNL_no {s : SE} (h1 : hasNL s.f = false) (h2 : ∀ d ∈ s.ifs, hasNL d = false) : spNL s = false := by
  unfold spNL
  rw [h1, Bool.false_or, List.any_eq_false]
  intro d hd
  rw [h2 d hd]; simp
theorem specsNL_yes {ds : List SE} {k : Nat} {s : SE} (h : ds[k]? = some s) (hs : spNL s = true) : specsNL ds = true := by
  unfold specsNL
  rw [List.any_eq_true]
  exact ⟨s, List.mem_of_getElem? h, hs⟩
theorem specsNL_no {ds : List SE} (h : ∀ s ∈ ds, spNL s = false) : specsNL ds = false := by
  unfold specsNL
  rw [List.any_eq_false]
  intro s hs
  rw [h s hs]; simp

set_option maxRecDepth 100000 in
set_option maxHeartbeats 2000000 in
theorem zzSpecsHaveNewline_any (w : World) (a : Option Addr) (len cap : Nat) (ds : List SE) (h : RdS w a len cap ds) : Calls Tryz.prog 14 #[.slice a len cap] w (Bl (specsNL ds) w) := by
  have hle := h.le
  have htop := h.top
  have hdl := h.len
  unfold maxLen at htop
  have HDL := Lib.hid hdl; clear hdl
  have H := Lib.hid h; clear h
  go_enter Tryz.func14, Tryz.ntmps14
  go_wp2_with fail
  go_loopw [3] (fun i wr => ∃ k : Nat, k ≤ len ∧ i = .int .i64 k ∧ Kept [] w wr ∧ Hid (∀ s ∈ ds.take k, spNL s = false)) (fun i _ => len - (intOf i).toNat)
  case atStart => exact ⟨0, Nat.zero_le _, rfl, Kept.refl _ _, Lib.hid (by simp)⟩
  case round =>
    obtain ⟨k, hk, rfl, hb, HG⟩ := hrel
    have HB := Lib.hid hb; clear hb
    by_cases hlt : k < len
    · obtain ⟨b, o, s, a1, l1, c1, a2, l2, c2, hs, rfl, hbl, q1, q2, h1, h2⟩ := (H.out.kept0 HB.out).sp k hlt
      have hle2 := h2.le
      have htop2 := h2.top
      have hl2 := h2.len
      unfold maxLen at htop2
      have HL2 := Lib.hid hl2; clear hl2
      have H1 := Lib.hid h1; clear h1
      have H2 := Lib.hid h2; clear h2
      have HS := Lib.hid hs; clear hs
      go_wp2_with fail
      refine (zzHasNewline_any _ a1 l1 c1 _ H1.out).mono ?_
      rintro e w1 ⟨rfl, k1⟩
      have K1 := Lib.hid k1; clear k1
      obtain ⟨t1, ht1⟩ : ∃ t1, hasNL s.f = t1 := ⟨_, rfl⟩
      rw [ht1]
      have HG1 := Lib.hid ht1; clear ht1
      cases t1
      rotate_left
      · go_wp2_with fail
        go_ret
        exact ⟨by rw [specsNL_yes HS.out (by unfold spNL; rw [HG1.out]; rfl)]; rfl, HB.out.trans K1.out⟩
      go_wp2_with fail
      go_loopw [4] (fun i wq => ∃ j : Nat, j ≤ l2 ∧ i = .int .i64 j ∧ Kept [] wr wq ∧ Hid (∀ d ∈ s.ifs.take j, hasNL d = false)) (fun i _ => l2 - (intOf i).toNat)
      case atStart => exact ⟨0, Nat.zero_le _, rfl, K1.out, Lib.hid (by simp)⟩
      case round =>
        obtain ⟨j, hj, rfl, hb, HGJ⟩ := hrel
        have KQ := Lib.hid hb; clear hb
        have q1' := KQ.out.cell q1 (by simp)
        have q2' := KQ.out.cell q2 (by simp)
        have q1 := Lib.hid q1
        have q2 := Lib.hid q2
        by_cases hjt : j < l2
        · obtain ⟨b3, o3, r, ra, rl, rc, hr, rfl, hb3, d0, hrz⟩ := (H2.out.kept0 KQ.out).row j hjt
          have HRZ := Lib.hid hrz; clear hrz
          have HR := Lib.hid hr; clear hr
          go_wp2_with fail
          refine (zzHasNewline_any _ ra rl rc _ HRZ.out).mono ?_
          rintro e w3 ⟨rfl, k3⟩
          have K3 := Lib.hid (KQ.out.trans k3); clear k3
          obtain ⟨t3, ht3⟩ : ∃ t3, hasNL r = t3 := ⟨_, rfl⟩
          rw [ht3]
          have HG3 := Lib.hid ht3; clear ht3
          cases t3
          rotate_left
          · go_wp2_with fail
            go_ret
            exact ⟨by rw [specsNL_yes HS.out (spNL_if HR.out HG3.out)]; rfl, HB.out.trans K3.out⟩
          have HN := Lib.hid (all_snoc (P := fun d => hasNL d = false) HGJ.out HR.out HG3.out)
          go_wp2_with fail
          exact ⟨⟨j + 1, by omega, by go_num, K3.out, HN⟩, by simp [intOf]; omega⟩
        · obtain rfl : j = l2 := by omega
          have hn : spNL s = false := spNL_no HG1.out (by have := HGJ.out; rw [← HL2.out, List.take_length] at this; exact this)
          have HN := Lib.hid (all_snoc (P := fun s => spNL s = false) HG.out HS.out hn); clear hn
          go_wp2_with fail
          exact ⟨⟨k + 1, by omega, by go_num, HB.out.trans KQ.out, HN⟩, by simp [intOf]; omega⟩
    · obtain rfl : k = len := by omega
      go_wp2_with fail
      go_ret
      exact ⟨by rw [specsNL_no (by have := HG.out; rw [← HDL.out, List.take_length] at this; exact this)]; rfl, HB.out⟩
end Go.Proofs.YtgdipdbmllkckaaGreatFmt
