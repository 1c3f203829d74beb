/- The walk of the law FnFixNewlinesLocalIdempotent: it returns true at every slice of slices of codes, and writes nothing that was there. -/
import Derived.Test.YtepipmjcfnncdaaFmtLocFN
import Derived.Test.YtepipmjcfnncdaaFmtLocBN
import Derived.Test.YtepipmjcfnncdaaFmtZ4s
namespace Go.Proofs.YtepipmjcfnncdaaFmt
open Go.ChangeShapes Go.WideShapes Go.ChangeAt Go.RowKit

/-- No row, and not their number, is over 2^20. -/
def SmallZZ (len : Nat) (ds : List ZRow) : Prop := len ≤ 1048576 ∧ ∀ i r, i < len → ds[i]? = some r → r.l ≤ 1048576

def SmallR (k : Nat) (ds : List ZRow) : Prop := ∀ i r, i < k → ds[i]? = some r → r.l ≤ 1048576

set_option maxRecDepth 100000 in
set_option maxHeartbeats 1000000 in
theorem zzBytes_Loc (w : World) (a : Option Addr) (len cap : Nat) (ds : List ZRow) (h : IsZZ w a len cap ds) : Calls Tryf.prog 28 #[.slice a len cap] w (Tells (SmallZZ len ds) w) := by
  have hle := h.le
  have htop := h.top
  unfold maxLen at htop
  have H := Lib.hid h; clear h
  by_cases h0 : 1048576 < len
  · go_enter Tryf.func28, Tryf.ntmps28
    go_wp2_with fail
    go_ret
    exact ⟨false, rfl, Kept.refl _ _, by simp⟩
  go_enter Tryf.func28, Tryf.ntmps28
  go_wp2_with fail
  go_loopw [3, 4] (fun c i wr => ∃ (k : Nat) (n : Int), k ≤ len ∧ i = .int .i64 k ∧ c = .int .i64 n ∧ Kept [] w wr ∧ SmallR k ds) (fun _ i _ => len - (intOf i).toNat)
  case atStart => exact ⟨0, _, Nat.zero_le _, rfl, rfl, Kept.refl _ _, fun i r hi => by omega⟩
  case round =>
    obtain ⟨k, n, hk, rfl, rfl, hb, hs⟩ := hrel
    have HB := Lib.hid hb; clear hb
    have HS := Lib.hid hs; clear hs
    by_cases hlt : k < len
    · obtain ⟨b, o, r, hr, rfl, hbl, c0, -⟩ := (H.out.kept HB.out (by simp)).row k hlt
      have HR := Lib.hid hr; clear hr
      by_cases hrl : 1048576 < r.l
      · go_wp2_with fail
        go_ret
        exact ⟨false, rfl, HB.out, by simp⟩
      have hs2 : SmallR (k + 1) ds := fun i y hi hy => by
        by_cases hik : i < k
        · exact HS.out i y hik hy
        · obtain rfl : i = k := by omega
          rw [HR.out] at hy
          obtain rfl : r = y := by simpa using hy
          omega
      have HS2 := Lib.hid hs2; clear hs2
      go_wp2_with fail
      all_goals
        first
        | (go_ret; exact ⟨false, rfl, HB.out, by simp⟩)
        | exact ⟨⟨k + 1, _, by omega, by go_num, rfl, HB.out, HS2.out⟩, by simp [intOf]; omega⟩
    · obtain rfl : k = len := by omega
      go_wp2_with fail
      go_ret
      exact ⟨true, rfl, HB.out, fun _ => ⟨by omega, HS.out⟩⟩

theorem Tryf.infoRow : (Tryf.prog.info? 96).map (fun i => (i.zero, i.size, i.bytes)) = some (some (.slice none 0 0), 1, 24) := by kernel_rfl

/-- Of the n cells of block C the first k hold what the fodders are written down as. -/
structure Snps (w : World) (C n k : Nat) (l : Nat → List FE) : Prop where
  at' : ∀ i, i < k → ∃ v, w.cell? ⟨C, i, none⟩ = some v ∧ Snp w (C + 1) v ((l i).map FE.snap)
  free : ∀ j, j < n → ∃ u, w.cell? ⟨C, j, none⟩ = some u
  fr : ∀ o, w.frozen? ⟨C, o, none⟩ = false
  el : C < w.heap.size
theorem Snps.kept {w w' : World} {C n k : Nat} {l : Nat → List FE} (h : Snps w C n k l) (q : Kept [] w w') : Snps w' C n k l where
  at' := fun i hi => by
    obtain ⟨v, h1, h2⟩ := h.at' i hi
    exact ⟨v, q.cell h1 (by simp), h2.kept q (by simp)⟩
  free := fun j hj => by
    obtain ⟨u, hu⟩ := h.free j hj
    exact ⟨u, q.cell hu (by simp)⟩
  fr := fun o => (q.frozen (p := ⟨C, o, none⟩) h.el (by simp)).trans (h.fr o)
  el := Nat.lt_of_lt_of_le h.el q.size

theorem Snps.step {w w1 : World} {C n k : Nat} {l : Nat → List FE} {v : Value} (h : Snps w C n k l) (hk : k < n) (q : Kept [] w w1) (hv : Snp w1 w.heap.size v ((l k).map FE.snap)) : Snps (w1.setCell ⟨C, k, none⟩ v) C n (k + 1) l := by
  have h1 := h.kept q
  have qs : Kept [C] w1 (w1.setCell ⟨C, k, none⟩ v) := (Kept.refl [C] w1).setCell (p := ⟨C, k, none⟩) (Or.inl (by simp)) _
  obtain ⟨u, hu⟩ := h1.free k hk
  have far : ∀ {x : Value} {b : Nat} {m : List ZE}, Snp w1 b x m → C < b → Snp (w1.setCell ⟨C, k, none⟩ v) (C + 1) x m := by
    intro x b m hx hb
    have hx2 : Snp (w1.setCell ⟨C, k, none⟩ v) b x m := hx.kept qs (fun g hg => by have := (World.ownsRow.lt hx g hg).1; simp; omega)
    refine ⟨hx2.1, ?_⟩
    rcases hx2.2 with h | ⟨g, cap, cur, e1, e2, e3⟩
    · exact Or.inl h
    · exact Or.inr ⟨g, cap, cur, e1, by omega, e3⟩
  exact {
    at' := fun i hi => by
      by_cases hik : i = k
      · subst hik
        exact ⟨v, World.cell?_setCell_same _ _ _ hu, far hv h.el⟩
      · obtain ⟨x, a1, a2⟩ := h1.at' i (by omega)
        exact ⟨x, (World.cell?_setCell_other _ _ _ _ (fun e => by injection e with _ e; omega)).trans a1, far a2 (by omega)⟩
    free := fun j hj => by
      by_cases hjk : j = k
      · subst hjk
        exact ⟨v, World.cell?_setCell_same _ _ _ hu⟩
      · obtain ⟨x, hx⟩ := h1.free j hj
        exact ⟨x, (World.cell?_setCell_other _ _ _ _ (fun e => by injection e with _ e; omega)).trans hx⟩
    fr := fun o => (World.frozen?_setCell _ _ _ _).trans (h1.fr o)
    el := Nat.lt_of_lt_of_le h1.el qs.size }

namespace fnFixNewlinesLocalIdempotent
set_option maxRecDepth 100000 in
set_option maxHeartbeats 8000000 in
theorem walk (a0 : Option Addr) (len0 cap0 : Nat) (z0 : List ZRow) (w : World) (w0 : IsZZ w a0 len0 cap0 z0) :
    Calls Tryf.prog 5 #[.slice a0 len0 cap0] w fun e w' => e = .returned (.bool true) ∧ Below w.heap.size w w' := by
  have hle := w0.le
  have htop := w0.top
  unfold maxLen at htop
  have H := Lib.hid w0; clear w0
  go_enter Tryf.func5, Tryf.ntmps5
  go_wp2_with fail
  refine (zzBytes_Loc _ _ _ _ z0 H.out).mono ?_
  rintro e w1 ⟨b, rfl, k1, hsm⟩
  have K1 := Lib.hid k1; clear k1
  cases b
  · clear hsm
    go_wp2_with fail
    go_ret
    exact ⟨rfl, K1.out.below (Nat.le_refl _) (by simp)⟩
  have hsm' := hsm rfl
  clear hsm
  obtain ⟨hlen, hll⟩ := hsm'
  have HLL := Lib.hid hll; clear hll
  go_wp2_with fail
  refine (zzBytes2_any _ _ _ _ z0 (H.out.kept K1.out (by simp))).mono ?_
  rintro e w2 ⟨n2, rfl, k2⟩
  have K2 := Lib.hid (K1.out.trans k2); clear k2
  by_cases hn2 : 1048576 < n2
  · go_wp2_with fail
    go_ret
    exact ⟨rfl, K2.out.below (Nat.le_refl _) (by simp)⟩
  go_wp2_with fail
  refine (zzOK2_any _ _ _ _ z0 (H.out.kept K2.out (by simp))).mono ?_
  rintro e w3 ⟨b, rfl, k3, hgd⟩
  have K3 := Lib.hid (K2.out.trans k3); clear k3
  cases b
  · clear hgd
    go_wp2_with fail
    go_ret
    exact ⟨rfl, K3.out.below (Nat.le_refl _) (by simp)⟩
  have hgd' := hgd rfl
  have HGD := Lib.hid hgd'; clear hgd hgd'
  go_wp2_with fail
  refine (zzBuildLocal_any _ _ _ _ z0 (H.out.kept K3.out (by simp)) HGD.out hlen HLL.out).mono ?_
  rintro e w4 ⟨nb, eb, xb, x, v, l, rfl, hN, hbt, k4⟩
  have hB : w.heap.size ≤ w3.heap.size := K3.out.size
  obtain ⟨B, hBe⟩ : ∃ B, w3.heap.size = B := ⟨_, rfl⟩
  rw [hBe] at hN hB
  have hB4 : B ≤ w4.heap.size := hBe ▸ k4.size
  have K4 := Lib.hid (K3.out.trans k4); clear k4
  have HN := Lib.hid hN; clear hN
  clear hBe
  have hkl : ∀ i, i < len0 → Kinds (l i) ∧ (l i).length ≤ 1048576 := fun i hi => by
    obtain ⟨b, o, r, hr, -⟩ := H.out.row i hi
    have hb := hbt i r hi hr
    exact ⟨hb.kinds, by rw [hb.len]; exact HLL.out i r hi hr⟩
  have HKL := Lib.hid hkl; clear hkl hbt
  go_wp2_with fail
  refine (zzFixLocal _ B nb eb xb len0 x v l HN.out (fun i hi => (HKL.out i hi).1) (fun i hi _ => (HKL.out i hi).2) hlen hB4).mono ?_
  rintro e w5 ⟨rfl, v', l', hN5, hE5, hb5, -⟩
  have hN5sz : w4.heap.size ≤ w5.heap.size := hb5.size
  have hwB5 : w.heap.size ≤ w5.heap.size := Nat.le_trans K4.out.size hN5sz
  have B5 := Lib.hid ((K4.out.below (Nat.le_refl _) (by simp)).trans (hb5.mono hB)); clear hb5
  have hkl' : ∀ i, i < len0 → Kinds (l' i) ∧ (l' i).length ≤ 1048577 ∧ (clean (l' i) = false → (l' i).length ≤ 1048576) := fun i hi => by
    have h1 := HKL.out i hi
    rcases hE5 i hi with ⟨_, _, h⟩ | ⟨_, h⟩
    · exact ⟨h.kinds h1.1, by have := h.len; omega, fun hc => by rw [h.clean] at hc; cases hc⟩
    · rw [h]; exact ⟨h1.1, by omega, fun _ => h1.2⟩
  have hdec : upTo l' len0 = 0 ∨ ∀ i, 0 < i → i < len0 → clean (l' i) = true := by
    by_cases hx : expTo l len0 = true
    · right
      intro i hi0 hi
      have hu : upTo l len0 = len0 := by unfold upTo; rw [hx]; rfl
      rw [hu] at hE5
      rcases hE5 i hi with ⟨_, _, h⟩ | ⟨h, _⟩
      · exact h.clean
      · omega
    · left
      have hu : upTo l len0 = 0 := by unfold upTo; rw [if_neg hx]
      rw [hu] at hE5
      have : expTo l' len0 = expTo l len0 := expTo_congr (fun i hi => by
        rcases hE5 i hi with ⟨_, h, _⟩ | ⟨_, h⟩
        · omega
        · exact h)
      unfold upTo
      rw [this, if_neg hx]
  have HKL' := Lib.hid hkl'; clear hkl'
  have HDEC := Lib.hid hdec; clear hdec
  have HN5 := Lib.hid hN5; clear hN5
  clear hE5 HKL HN
  obtain ⟨i0, hi, hz0, hz1, hz2⟩ := info_parts Tryf.infoRow
  go_wp2_with (at_make; refine wpList_make_full _ rfl _ _ 90 rfl w5.heap.size 96 i0 _ 1 Tryf.underlying90 hi hz0 hz1 _ _ _ _ len0 rfl rfl rfl rfl ?b2 ?b3 (Nat.le_refl _) ?_)
  case b2 => rw [hz2]; omega
  case b3 => unfold maxLen; omega
  intro w6 hown hgrow
  have hk6 : Kept [] w5 w6 := (Kept.refl _ _).grown hgrow (by simp)
  obtain ⟨C, hC⟩ : ∃ C, w5.heap.size = C := ⟨_, rfl⟩
  rw [hC] at hown ⊢
  have hsn : Snps w6 C len0 0 l' := by
    refine ⟨fun i hi => by omega, fun j hj => ?_, fun o => World.ownsRow.frozenAt hown o, (World.ownsRow.lt hown C rfl).2⟩
    have hl := hown.1
    have := World.ownsRow.cells hown (g := C) rfl j _ (List.getElem?_eq_getElem (by rw [hl]; omega))
    rw [add_off, Nat.zero_add] at this
    exact ⟨_, this⟩
  clear hown hgrow hi hz0 hz1 hz2
  have HSN := Lib.hid hsn; clear hsn
  have HK6 := Lib.hid hk6; clear hk6
  have HCC := Lib.hid hC; clear hC
  go_wp2_with fail
  go_loopw [5] (fun i wr => ∃ k : Nat, k ≤ len0 ∧ i = .int .i64 k ∧ Kept [] w5 wr ∧ Snps wr C len0 k l') (fun i _ => len0 - (intOf i).toNat)
  case atStart => exact ⟨0, Nat.zero_le _, rfl, HK6.out, HSN.out⟩
  case round =>
    clear HK6 HSN
    obtain ⟨k, hk, rfl, hq, hs⟩ := hrel
    have HQ := Lib.hid hq; clear hq
    have HS := Lib.hid hs; clear hs
    by_cases hlt : k < len0
    · have n5 := HN5.out.kept HQ.out
      have c0 := n5.c0
      have e0 := n5.cells k hlt 0 (by omega)
      obtain ⟨va, vn, vc, hv⟩ := (HN5.out.fod k hlt).isSlice
      simp only [bndC, Nat.add_zero, List.getElem?_cons_zero] at e0
      rw [hv] at e0
      have hfd := n5.fod k hlt
      rw [hv] at hfd
      have HFD := Lib.hid hfd; clear hfd n5 hv
      have i1 : (0 : Int) ≤ (k : Int) := by omega
      have i2 : (k : Int) < (len0 : Int) := by omega
      go_wp2_with fail
      refine (zzSnap_any _ B _ (l' k) HFD.out (HKL'.out k hlt).1 (by have := (HKL'.out k hlt).2.1; omega)).mono ?_
      rintro e w7 ⟨u, rfl, hu, k7⟩
      obtain ⟨ua, uc, hue, -⟩ := hu.slice
      rw [List.length_map] at hue
      have hst := HS.out.step hlt k7 hu
      have h7 := HS.out.kept k7
      obtain ⟨s0, q0⟩ := h7.free k hlt
      have f0 := h7.fr k
      have hq7 : Kept [] w5 (w7.setCell ⟨C, k, none⟩ u) := (HQ.out.trans k7).setCell (p := ⟨C, k, none⟩) (Or.inr (by rw [HCC.out]; exact Nat.le_refl _)) _
      subst hue
      have HST := Lib.hid hst; clear hst
      have HQ7 := Lib.hid hq7; clear hq7
      clear h7 k7 hu c0 e0
      go_wp2_with fail
      exact ⟨⟨k + 1, by omega, by go_num, HQ7.out, HST.out⟩, by simp [intOf]; omega⟩
    · obtain rfl : k = len0 := by omega
      have hB5 : B ≤ w5.heap.size := Nat.le_trans hB4 hN5sz
      go_wp2_with fail
      refine (zzFixLocal _ B nb eb xb k x v' l' (HN5.out.kept HQ.out) (fun i hi => (HKL'.out i hi).1) (fun i hi => (HKL'.out i hi).2.2) hlen (Nat.le_trans hB5 HQ.out.size)).mono ?_
      rintro e w8 ⟨rfl, _, _, _, _, _, h8⟩
      have k8 := h8 HDEC.out
      have HQ8 := Lib.hid (HQ.out.trans k8)
      have HS8 := Lib.hid (HS.out.kept k8)
      clear h8 k8
      go_wp2_with fail
      go_loopw [6] (fun i wr => ∃ m : Nat, m ≤ k ∧ i = .int .i64 m ∧ Kept [] w8 wr) (fun i _ => k - (intOf i).toNat)
      case atStart => exact ⟨0, Nat.zero_le _, rfl, Kept.refl _ _⟩
      case round =>
        obtain ⟨m, hm, rfl, hq⟩ := hrel
        have HR := Lib.hid hq; clear hq
        by_cases hlt : m < k
        · have n5 := HN5.out.kept (HQ8.out.trans HR.out)
          have c0 := n5.c0
          have e0 := n5.cells m hlt 0 (by omega)
          obtain ⟨va, vn, vc, hv⟩ := (HN5.out.fod m hlt).isSlice
          simp only [bndC, Nat.add_zero, List.getElem?_cons_zero] at e0
          rw [hv] at e0
          have hfd := n5.fod m hlt
          rw [hv] at hfd
          have HFD := Lib.hid hfd; clear hfd n5 hv
          obtain ⟨u, q0, hu⟩ := (HS8.out.kept HR.out).at' m hlt
          obtain ⟨ua, uc, hue, -⟩ := hu.slice
          rw [List.length_map] at hue
          subst hue
          have HU := Lib.hid hu; clear hu
          have i1 : (0 : Int) ≤ (m : Int) := by omega
          have i2 : (m : Int) < (k : Int) := by omega
          go_wp2_with fail
          go_still_tail 12, (by kernel_rfl)
          go_wp2_with fail
          have q := (Kept.refl [] wr).drew
          refine (zzAfter_same _ B _ _ _ (l' m) (HFD.out.kept q (by simp)) (HU.out.kept q (by simp)) (HKL'.out m hlt).1).mono ?_
          rintro e w9 ⟨rfl, k9⟩
          have HR9 := Lib.hid ((HR.out.trans q).trans k9)
          clear q k9
          go_wp2_with fail
          exact ⟨⟨m + 1, by omega, by go_num, HR9.out⟩, by simp [intOf]; omega⟩
        · obtain rfl : m = k := by omega
          go_wp2_with fail
          go_ret
          exact ⟨rfl, B5.out.trans ((HQ8.out.trans HR.out).below hwB5 (by simp))⟩
end fnFixNewlinesLocalIdempotent
end Go.Proofs.YtepipmjcfnncdaaFmt
