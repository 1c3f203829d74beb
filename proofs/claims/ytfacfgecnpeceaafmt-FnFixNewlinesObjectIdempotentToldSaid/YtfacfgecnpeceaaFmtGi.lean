/- Reading: the fields of an object as they come in; the contracts of n008_124's zzBytesFields, zzOKFields and of the law's bound. -/
import Derived.Test.YtfacfgecnpeceaaFmtZ4f
namespace Go.Proofs.YtfacfgecnpeceaaFmt
open Go.ChangeShapes Go.WideShapes Go.ChangeAt Go.RowKit

/-- A field: its kind's code, its opening fodder's and its other fodder's codes. -/
structure GR where
  k : Int
  op : ZRow
  ot : ZRow
  deriving Inhabited
def RGF (w : World) (cs : List Value) (s : GR) : Prop := cs = [.int .i64 s.k, .slice s.op.a s.op.l s.op.c, .slice s.ot.a s.ot.l s.ot.c] ∧ IsZ w s.op.a s.op.l s.op.c s.op.ds ∧ IsZ w s.ot.a s.ot.l s.ot.c s.ot.ds
def IsG := IsSl 3 RGF
theorem IsG.kept {w w' : World} {a : Option Addr} {len cap : Nat} {ds : List GR} {S : List Nat} (h : IsG w a len cap ds) (hk : Kept S w w') (hS : ∀ g ∈ S, w.heap.size ≤ g) : IsG w' a len cap ds :=
  IsSl.kept h hk hS (fun _ _ h => ⟨h.1, h.2.1.kept hk hS, h.2.2.kept hk hS⟩)
theorem IsG.fl {w : World} {a : Option Addr} {len cap : Nat} {ds : List GR} (h : IsG w a len cap ds) (i : Nat) (hi : i < len) :
    ∃ b o s, ds[i]? = some s ∧ a = some ⟨b, o, none⟩ ∧ b < w.heap.size ∧ w.cell? ⟨b, o + i * 3, none⟩ = some (.int .i64 s.k) ∧ w.cell? ⟨b, o + i * 3 + 1, none⟩ = some (.slice s.op.a s.op.l s.op.c) ∧ w.cell? ⟨b, o + i * 3 + 2, none⟩ = some (.slice s.ot.a s.ot.l s.ot.c) ∧
      IsZ w s.op.a s.op.l s.op.c s.op.ds ∧ IsZ w s.ot.a s.ot.l s.ot.c s.ot.ds := by
  have hl : i < ds.length := by have := h.le; have := h.full; omega
  obtain ⟨b, o, cs, h1, h2, h3, ⟨rfl, q1, q2⟩, h5⟩ := h.at' i ds[i] (List.getElem?_eq_getElem hl)
  exact ⟨b, o, ds[i], List.getElem?_eq_getElem hl, h1, h2, by simpa using h5 0 (by omega), by simpa using h5 1 (by omega), by simpa using h5 2 (by omega), q1, q2⟩
def GoodG (k : Nat) (ds : List GR) : Prop := ∀ (i : Nat) s, i < k → ds[i]? = some s → GoodZ s.op.l s.op.ds ∧ GoodZ s.ot.l s.ot.ds
def SmallG (k : Nat) (ds : List GR) : Prop := ∀ (i : Nat) s, i < k → ds[i]? = some s → s.op.l ≤ 1048576 ∧ s.ot.l ≤ 1048576

section
variable {H : Type} {enc : TypeId × Value → H} {w : World}
theorem trod_struct3 {t : TypeId} {f0 f1 f2 : Field} {fuel : Nat} {cs : List Value} {x : DataW H × List MemPlace}
    (ht : Tryf.prog.underlying t = some (.struct #[f0, f1, f2])) (h : DataW.trod enc Tryf.prog w 0 (fun _ => true) true fuel t cs = some x) :
    ∃ y0 y1 y2 n, cs.length = Tryf.prog.cellsOf t ∧ DataW.trod enc Tryf.prog w 0 (fun _ => true) true n f0.type ((cs.drop f0.offset).take (Tryf.prog.cellsOf f0.type)) = some y0 ∧
      DataW.trod enc Tryf.prog w 0 (fun _ => true) true n f1.type ((cs.drop f1.offset).take (Tryf.prog.cellsOf f1.type)) = some y1 ∧
      DataW.trod enc Tryf.prog w 0 (fun _ => true) true n f2.type ((cs.drop f2.offset).take (Tryf.prog.cellsOf f2.type)) = some y2 := by
  obtain ⟨xs, n, _, rfl, hl, hlen, hf⟩ := DataW.trod_struct ht h
  match xs, hlen with
  | [y0, y1, y2], _ => exact ⟨y0, y1, y2, n, hl, by simpa using hf 0 f0 rfl, by simpa using hf 1 f1 rfl, by simpa using hf 2 f2 rfl⟩

set_option maxRecDepth 100000 in
theorem read_gf (n : Nat) (cs : List Value) (y : DataW H × List MemPlace) (hy : DataW.trod enc Tryf.prog w 0 (fun _ => true) true n 56 cs = some y) : ∃ s, RGF w cs s := by
  obtain ⟨y0, y1, y2, m, hl, h0, h1, h2⟩ := trod_struct3 Tryf.underlying56 hy
  have hc : Tryf.prog.cellsOf 56 = 3 := by kernel_rfl
  have e0 : Tryf.prog.cellsOf 3 = 1 := by kernel_rfl
  have e1 : Tryf.prog.cellsOf 23 = 1 := by kernel_rfl
  rw [hc] at hl
  match cs, hl with
  | [c0, c1, c2], _ =>
    simp only [e0, e1, List.drop_zero, List.drop_succ_cons, List.take_succ_cons, List.take_zero] at h0 h1 h2
    obtain ⟨x0, q0, _, _⟩ := DataW.trod_int Tryf.underlying3 h0
    simp at q0
    subst q0
    obtain ⟨r1, q1, q1'⟩ := read_zz _ _ _ h1
    obtain ⟨r2, q2, q2'⟩ := read_zz _ _ _ h2
    simp at q1 q2
    subst q1 q2
    exact ⟨⟨x0, r1, r2⟩, rfl, q1', q2'⟩

theorem open_gf {fuel : Nat} {a : Option Addr} {len cap : Nat} {x : DataW H × List MemPlace}
    (h : DataW.trod enc Tryf.prog w 0 (fun _ => true) true fuel 22 [.slice a len cap] = some x) : ∃ ds, IsG w a len cap ds :=
  open_sl Tryf.underlying22 (by kernel_rfl) (by omega) RGF read_gf h
end

set_option maxRecDepth 100000 in
set_option maxHeartbeats 2000000 in
theorem zzBytesFields_any (w : World) (a : Option Addr) (len cap : Nat) (ds : List GR) (h : IsG w a len cap ds) : Calls Tryf.prog 5 #[.slice a len cap] w (SomeInt w) := by
  have hle := h.le
  have htop := h.top
  unfold maxLen at htop
  have H := Lib.hid h; clear h
  go_enter Tryf.func5, Tryf.ntmps5
  go_wp2_with fail
  go_loopw [3, 4] (fun c i wr => ∃ (k : Nat) (n : Int), k ≤ len ∧ i = .int .i64 k ∧ c = .int .i64 n ∧ Kept [] w wr) (fun _ i _ => len - (intOf i).toNat)
  case atStart => exact ⟨0, 0, Nat.zero_le _, rfl, rfl, Kept.refl _ _⟩
  case round =>
    obtain ⟨k, n, hk, rfl, rfl, hb⟩ := hrel
    have HB := Lib.hid hb; clear hb
    by_cases hlt : k < len
    · obtain ⟨b, o, s, -, rfl, hbl, -, q1, q2, h1, h2⟩ := (H.out.kept HB.out (by simp)).fl k hlt
      have H1 := Lib.hid h1; clear h1
      have H2 := Lib.hid h2; clear h2
      have Q2 := Lib.hid q2; clear q2
      go_wp2_with fail
      refine (zzBytes_any _ _ _ _ _ H1.out).mono ?_
      rintro e w1 ⟨n1, rfl, k1⟩
      have K1 := Lib.hid k1; clear k1 q1
      obtain ⟨S, hS⟩ : ∃ S, wrap64 (n + wrap64 (56 + n1)) = S := ⟨_, rfl⟩
      by_cases hS2 : 1048576 < S
      · go_wp2_with fail
        go_ret
        exact ⟨_, rfl, HB.out.trans K1.out⟩
      have q2 := K1.out.cell Q2.out (by simp)
      go_wp2_with fail
      clear hS
      refine (zzBytes_any _ _ _ _ _ (H2.out.kept K1.out (by simp))).mono ?_
      rintro e w2 ⟨n2, rfl, k2⟩
      have K2 := Lib.hid (HB.out.trans (K1.out.trans k2)); clear k2
      go_wp2_with fail
      all_goals
        first
        | (go_ret; exact ⟨_, rfl, K2.out⟩)
        | exact ⟨⟨k + 1, _, by omega, by go_num, rfl, K2.out⟩, by simp [intOf]; omega⟩
    · obtain rfl : k = len := by omega
      go_wp2_with fail
      go_ret
      exact ⟨_, rfl, HB.out⟩

set_option maxRecDepth 100000 in
set_option maxHeartbeats 2000000 in
theorem zzOKFields_any (w : World) (a : Option Addr) (len cap : Nat) (ds : List GR) (h : IsG w a len cap ds) : Calls Tryf.prog 7 #[.slice a len cap] w (Tells (GoodG len ds) w) := by
  have hle := h.le
  have htop := h.top
  unfold maxLen at htop
  have H := Lib.hid h; clear h
  go_enter Tryf.func7, Tryf.ntmps7
  go_wp2_with fail
  go_loopw [3] (fun i wr => ∃ k : Nat, k ≤ len ∧ i = .int .i64 k ∧ Kept [] w wr ∧ GoodG k ds) (fun i _ => len - (intOf i).toNat)
  case atStart => exact ⟨0, Nat.zero_le _, rfl, Kept.refl _ _, fun j z hj => by omega⟩
  case round =>
    obtain ⟨k, hk, rfl, hb, hg⟩ := hrel
    have HB := Lib.hid hb; clear hb
    have HG := Lib.hid hg; clear hg
    by_cases hlt : k < len
    · obtain ⟨b, o, s, hz, rfl, hbl, -, q1, q2, h1, h2⟩ := (H.out.kept HB.out (by simp)).fl k hlt
      have HZ := Lib.hid hz; clear hz
      have H1 := Lib.hid h1; clear h1
      have H2 := Lib.hid h2; clear h2
      have Q2 := Lib.hid q2; clear q2
      go_wp2_with fail
      refine (zzOK_any _ _ _ _ _ H1.out).mono ?_
      rintro e w1 ⟨b, rfl, k1, hb1⟩
      have K1 := Lib.hid k1; clear k1 q1
      cases b
      · clear hb1
        go_wp2_with fail
        go_ret
        exact ⟨false, rfl, HB.out.trans K1.out, by simp⟩
      have HB1 := Lib.hid (hb1 rfl); clear hb1
      have q2 := K1.out.cell Q2.out (by simp)
      go_wp2_with fail
      refine (zzOK_any _ _ _ _ _ (H2.out.kept K1.out (by simp))).mono ?_
      rintro e w2 ⟨b, rfl, k2, hb2⟩
      have K2 := Lib.hid (HB.out.trans (K1.out.trans k2)); clear k2
      cases b
      · clear hb2
        go_wp2_with fail
        go_ret
        exact ⟨false, rfl, K2.out, by simp⟩
      have HB2 := Lib.hid (hb2 rfl); clear hb2 q2
      go_wp2_with fail
      refine ⟨⟨k + 1, by omega, by go_num, K2.out, fun i y hi hy => ?_⟩, by simp [intOf]; omega⟩
      by_cases hik : i < k
      · exact HG.out i y hik hy
      · obtain rfl : i = k := by omega
        rw [HZ.out] at hy
        obtain rfl : s = y := by simpa using hy
        exact ⟨HB1.out, HB2.out⟩
    · obtain rfl : k = len := by omega
      go_wp2_with fail
      go_ret
      exact ⟨_, rfl, HB.out, fun _ => HG.out⟩

set_option maxRecDepth 100000 in
set_option maxHeartbeats 4000000 in
theorem zzBytes_Obj (w : World) (a : Option Addr) (len cap : Nat) (ds : List GR) (a2 : Option Addr) (len2 cap2 : Nat) (h : IsG w a len cap ds) (h2 : len2 ≤ 9223372036854775807) :
    Calls Tryf.prog 4 #[.slice a len cap, .slice a2 len2 cap2] w (Tells ((len ≤ 1048576 ∧ SmallG len ds) ∧ len2 ≤ 1048576) w) := by
  have hle := h.le
  have htop := h.top
  unfold maxLen at htop
  have H := Lib.hid h; clear h
  by_cases h0 : 1048576 < len
  · go_enter Tryf.func4, Tryf.ntmps4
    go_wp2_with fail
    go_ret
    exact ⟨false, rfl, Kept.refl _ _, by simp⟩
  go_enter Tryf.func4, Tryf.ntmps4
  go_wp2_with fail
  go_loopw [5, 6] (fun c i wr => ∃ (k : Nat) (n : Int), k ≤ len ∧ i = .int .i64 k ∧ c = .int .i64 n ∧ Kept [] w wr ∧ SmallG k ds) (fun _ i _ => len - (intOf i).toNat)
  case atStart => exact ⟨0, _, Nat.zero_le _, rfl, rfl, Kept.refl _ _, fun i r hi => by omega⟩
  case round =>
    obtain ⟨k, n, hk, rfl, rfl, hb, hs⟩ := hrel
    have HB := Lib.hid hb; clear hb
    have HS := Lib.hid hs; clear hs
    by_cases hlt : k < len
    · obtain ⟨b, o, r, hr, rfl, hbl, -, q1, q2, h1, h2'⟩ := (H.out.kept HB.out (by simp)).fl k hlt
      have i1 := h1.le
      have i1' := h1.top
      have i2 := h2'.le
      have i2' := h2'.top
      unfold maxLen at i1' i2'
      have HR := Lib.hid hr; clear hr h1 h2'
      obtain ⟨L1, hL1⟩ : ∃ L, r.op.l = L := ⟨_, rfl⟩
      obtain ⟨L2, hL2⟩ : ∃ L, r.ot.l = L := ⟨_, rfl⟩
      rw [hL1] at q1 i1
      rw [hL2] at q2 i2
      have HL1 := Lib.hid hL1; have HL2 := Lib.hid hL2; clear hL1 hL2
      by_cases hrl : 1048576 < L1
      · go_wp2_with fail
        go_ret
        exact ⟨false, rfl, HB.out, by simp⟩
      obtain ⟨S1, hS1⟩ : ∃ S, wrap64 (n + L1) = S := ⟨_, rfl⟩
      by_cases hs1 : 1048576 < S1
      · go_wp2_with fail
        go_ret
        exact ⟨false, rfl, HB.out, by simp⟩
      by_cases hrl2 : 1048576 < L2
      · go_wp2_with fail
        go_ret
        exact ⟨false, rfl, HB.out, by simp⟩
      have hs2 : SmallG (k + 1) ds := fun i y hi hy => by
        by_cases hik : i < k
        · exact HS.out i y hik hy
        · obtain rfl : i = k := by omega
          rw [HR.out] at hy
          obtain rfl : r = y := by simpa using hy
          exact ⟨by rw [HL1.out]; omega, by rw [HL2.out]; omega⟩
      have HS2 := Lib.hid hs2; clear hs2
      go_wp2_with fail
      all_goals
        first
        | (go_ret; exact ⟨false, rfl, HB.out, by simp⟩)
        | exact ⟨⟨k + 1, _, by omega, by go_num, rfl, HB.out, HS2.out⟩, by simp [intOf]; omega⟩
    · obtain rfl : k = len := by omega
      by_cases h3 : 1048576 < len2
      · go_wp2_with fail
        go_ret
        exact ⟨false, rfl, HB.out, by simp⟩
      go_wp2_with fail
      all_goals
        first
        | (go_ret; exact ⟨true, rfl, HB.out, fun _ => ⟨⟨by omega, HS.out⟩, by omega⟩⟩)
        | (go_ret; exact ⟨false, rfl, HB.out, by simp⟩)
end Go.Proofs.YtfacfgecnpeceaaFmt
