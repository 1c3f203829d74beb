/- Reading: the fields of an object comprehension as they come in; the contracts of zzFieldsBytes and zzFieldsOK. -/
import Derived.Test.YtgdipdbmllkckaaGreatFmtSB2
namespace Go.Proofs.YtgdipdbmllkckaaGreatFmt
open Go.ChangeShapes Go.WideShapes Go.ChangeAt Go.RowKit

/-- A field: is it named by a string, the codes of its opening fodder and of its operator's. -/
structure FL where
  str : Bool
  op : List ZE
  ot : List ZE
  deriving Inhabited, DecidableEq
def RFl (w : World) (cs : List Value) (s : FL) : Prop := ∃ a l c a2 l2 c2, cs = [.bool s.str, .slice a l c, .slice a2 l2 c2] ∧ RdZ w a l c s.op ∧ RdZ w a2 l2 c2 s.ot
def RdF := Rd 3 RFl
theorem RFl.kept {w w' : World} {cs : List Value} {s : FL} {S : List Nat} (h : RFl w cs s) (hk : Kept S w w') (hS : ∀ g ∈ S, w.heap.size ≤ g) : RFl w' cs s := by
  obtain ⟨a, l, c, a2, l2, c2, h1, h2, h3⟩ := h
  exact ⟨a, l, c, a2, l2, c2, h1, h2.kept hk hS, h3.kept hk hS⟩
theorem RdF.kept0 {w w' : World} {a : Option Addr} {len cap : Nat} {ds : List FL} (h : RdF w a len cap ds) (hk : Kept [] w w') : RdF w' a len cap ds := Rd.kept h hk (by simp) (fun _ _ h => h.kept hk (by simp))
theorem RdF.below {w w' : World} {B : Nat} {a : Option Addr} {len cap : Nat} {ds : List FL} (h : RdF w a len cap ds) (hb : Below B w w') (hB : w.heap.size ≤ B) : RdF w' a len cap ds :=
  h.kept0 (Kept.of_below hb hB [])
theorem RdF.fl {w : World} {a : Option Addr} {len cap : Nat} {ds : List FL} (h : RdF w a len cap ds) (i : Nat) (hi : i < len) :
    ∃ b o s a1 l1 c1 a2 l2 c2, ds[i]? = some s ∧ a = some ⟨b, o, none⟩ ∧ b < w.heap.size ∧ w.cell? ⟨b, o + i * 3, none⟩ = some (.bool s.str) ∧ w.cell? ⟨b, o + i * 3 + 1, none⟩ = some (.slice a1 l1 c1) ∧ w.cell? ⟨b, o + i * 3 + 2, none⟩ = some (.slice a2 l2 c2) ∧
      RdZ w a1 l1 c1 s.op ∧ RdZ w a2 l2 c2 s.ot := by
  have hl : i < ds.length := by have := h.len; omega
  obtain ⟨b, o, cs, h1, h2, h3, ⟨a1, l1, c1, a2, l2, c2, rfl, q1, q2⟩, h5⟩ := h.at' i ds[i] (List.getElem?_eq_getElem hl)
  exact ⟨b, o, ds[i], a1, l1, c1, a2, l2, c2, List.getElem?_eq_getElem hl, h1, h2, by simpa using h5 0 (by omega), by simpa using h5 1 (by omega), by simpa using h5 2 (by omega), q1, q2⟩

def GoodF (s : FL) : Prop := GoodL s.op ∧ GoodL s.ot
def SmallF (s : FL) : Prop := s.op.length ≤ 1048576 ∧ s.ot.length ≤ 1048576

section
variable {H : Type} {enc : TypeId × Value → H} {w : World}
theorem trod_struct3 {t : TypeId} {f0 f1 f2 : Field} {fuel : Nat} {cs : List Value} {x : DataW H × List MemPlace}
    (ht : Tryz.prog.underlying t = some (.struct #[f0, f1, f2])) (h : DataW.trod enc Tryz.prog w 0 (fun _ => true) true fuel t cs = some x) :
    ∃ y0 y1 y2 n, cs.length = Tryz.prog.cellsOf t ∧ DataW.trod enc Tryz.prog w 0 (fun _ => true) true n f0.type ((cs.drop f0.offset).take (Tryz.prog.cellsOf f0.type)) = some y0 ∧
      DataW.trod enc Tryz.prog w 0 (fun _ => true) true n f1.type ((cs.drop f1.offset).take (Tryz.prog.cellsOf f1.type)) = some y1 ∧
      DataW.trod enc Tryz.prog w 0 (fun _ => true) true n f2.type ((cs.drop f2.offset).take (Tryz.prog.cellsOf f2.type)) = some y2 := by
  obtain ⟨xs, n, _, rfl, hl, hlen, hf⟩ := DataW.trod_struct ht h
  match xs, hlen with
  | [y0, y1, y2], _ => exact ⟨y0, y1, y2, n, hl, by simpa using hf 0 f0 rfl, by simpa using hf 1 f1 rfl, by simpa using hf 2 f2 rfl⟩

set_option maxRecDepth 100000 in
theorem read_fl (n : Nat) (cs : List Value) (y : DataW H × List MemPlace) (hy : DataW.trod enc Tryz.prog w 0 (fun _ => true) true n 39 cs = some y) : ∃ s, RFl w cs s := by
  obtain ⟨y0, y1, y2, m, hl, h0, h1, h2⟩ := trod_struct3 Tryz.underlying39 hy
  have hc : Tryz.prog.cellsOf 39 = 3 := by kernel_rfl
  have e0 : Tryz.prog.cellsOf 4 = 1 := by kernel_rfl
  have e1 : Tryz.prog.cellsOf 24 = 1 := by kernel_rfl
  rw [hc] at hl
  match cs, hl with
  | [c0, c1, c2], _ =>
    simp only [e0, e1, List.drop_zero, List.drop_succ_cons, List.take_succ_cons, List.take_zero] at h0 h1 h2
    obtain ⟨x0, q0, _⟩ := DataW.trod_bool Tryz.underlying4 h0
    obtain ⟨a, l, c, rfl⟩ := sl_one Tryz.underlying24 h1
    obtain ⟨a2, l2, c2, rfl⟩ := sl_one Tryz.underlying24 h2
    simp at q0
    subst q0
    obtain ⟨ds, hds⟩ := open_els h1
    obtain ⟨dd, hdd⟩ := open_els h2
    exact ⟨⟨x0, ds, dd⟩, a, l, c, a2, l2, c2, rfl, hds, hdd⟩

theorem open_fields {fuel : Nat} {a : Option Addr} {len cap : Nat} {x : DataW H × List MemPlace}
    (h : DataW.trod enc Tryz.prog w 0 (fun _ => true) true fuel 22 [.slice a len cap] = some x) : ∃ ds, RdF w a len cap ds := by
  obtain ⟨ds, hds⟩ := open_sl (c := 3) Tryz.underlying22 (by kernel_rfl) (by omega) RFl read_fl h
  exact ⟨_, hds.rd⟩
end

set_option maxRecDepth 100000 in
set_option maxHeartbeats 2000000 in
theorem zzFieldsBytes_any (w : World) (a : Option Addr) (len cap : Nat) (ds : List FL) (h : RdF w a len cap ds) : Calls Tryz.prog 5 #[.slice a len cap] w (SomeInt w) := by
  have hle := h.le
  have htop := h.top
  unfold maxLen at htop
  have H := Lib.hid h; clear h
  go_enter Tryz.func5, Tryz.ntmps5
  go_wp2_with fail
  go_loopw [3, 4] (fun c i wr => ∃ (k : Nat) (n : Int), k ≤ len ∧ i = .int .i64 k ∧ c = .int .i64 n ∧ Kept [] w wr) (fun _ i _ => len - (intOf i).toNat)
  case atStart => exact ⟨0, 24, Nat.zero_le _, rfl, rfl, Kept.refl _ _⟩
  case round =>
    obtain ⟨k, n, hk, rfl, rfl, hb⟩ := hrel
    have HB := Lib.hid hb; clear hb
    by_cases hlt : k < len
    · obtain ⟨b, o, s, a1, l1, c1, a2, l2, c2, hs, rfl, hbl, q0, q1, q2, h1, h2⟩ := (H.out.kept0 HB.out).fl k hlt
      have H1 := Lib.hid h1; clear h1
      have H2 := Lib.hid h2; clear h2
      have Q2 := Lib.hid q2; clear q2
      clear hs q0
      go_wp2_with fail
      refine (zzElsBytes_any _ a1 l1 c1 _ H1.out).mono ?_
      rintro e w1 ⟨n1, rfl, k1⟩
      have K1 := Lib.hid k1; clear k1
      obtain ⟨S, hS⟩ : ∃ S, wrap64 (n + wrap64 (56 + n1)) = S := ⟨_, rfl⟩
      by_cases hS2 : 1048576 < S
      · go_wp2_with fail
        go_ret
        exact ⟨_, rfl, HB.out.trans K1.out⟩
      have q2 := K1.out.cell Q2.out (by simp)
      go_wp2_with fail
      clear hS
      refine (zzElsBytes_any _ a2 l2 c2 _ (H2.out.kept0 K1.out)).mono ?_
      rintro e w2 ⟨n2, rfl, k2⟩
      have K2 := Lib.hid (HB.out.trans (K1.out.trans k2)); clear k2
      go_wp2_with fail
      all_goals
        first
        | (go_ret; exact ⟨_, rfl, K2.out⟩)
        | exact ⟨⟨k + 1, _, by omega, by go_num, rfl, K2.out⟩, by simp [intOf]; omega⟩
    · obtain rfl : k = len := by omega
      go_wp2_with fail
      go_ret
      exact ⟨_, rfl, HB.out⟩

set_option maxRecDepth 100000 in
set_option maxHeartbeats 2000000 in
theorem zzFieldsOK_any (w : World) (a : Option Addr) (len cap : Nat) (ds : List FL) (h : RdF w a len cap ds) : Calls Tryz.prog 9 #[.slice a len cap] w (Tells (∀ s ∈ ds, GoodF s) w) := by
  have hle := h.le
  have htop := h.top
  have hdl := h.len
  unfold maxLen at htop
  have HDL := Lib.hid hdl; clear hdl
  have H := Lib.hid h; clear h
  go_enter Tryz.func9, Tryz.ntmps9
  go_wp2_with fail
  go_loopw [3] (fun i wr => ∃ k : Nat, k ≤ len ∧ i = .int .i64 k ∧ Kept [] w wr ∧ Hid (∀ s ∈ ds.take k, GoodF s)) (fun i _ => len - (intOf i).toNat)
  case atStart => exact ⟨0, Nat.zero_le _, rfl, Kept.refl _ _, Lib.hid (by simp)⟩
  case round =>
    obtain ⟨k, hk, rfl, hb, HG⟩ := hrel
    have HB := Lib.hid hb; clear hb
    by_cases hlt : k < len
    · obtain ⟨b, o, s, a1, l1, c1, a2, l2, c2, hs, rfl, hbl, q0, q1, q2, h1, h2⟩ := (H.out.kept0 HB.out).fl k hlt
      have H1 := Lib.hid h1; clear h1
      have H2 := Lib.hid h2; clear h2
      have HS := Lib.hid hs; clear hs
      have Q2 := Lib.hid q2; clear q2
      clear q0
      go_wp2_with fail
      refine (zzElsOK_any _ a1 l1 c1 _ H1.out).mono ?_
      rintro e w1 ⟨t1, rfl, k1, hg1⟩
      have K1 := Lib.hid k1; clear k1
      cases t1
      · clear hg1
        go_wp2_with fail
        go_ret
        exact ⟨false, rfl, HB.out.trans K1.out, by simp⟩
      have HG1 := Lib.hid (hg1 rfl); clear hg1
      have q2 := K1.out.cell Q2.out (by simp)
      go_wp2_with fail
      refine (zzElsOK_any _ a2 l2 c2 _ (H2.out.kept0 K1.out)).mono ?_
      rintro e w2 ⟨t2, rfl, k2, hg2⟩
      have K2 := Lib.hid (HB.out.trans (K1.out.trans k2)); clear k2
      cases t2
      · clear hg2
        go_wp2_with fail
        go_ret
        exact ⟨false, rfl, K2.out, by simp⟩
      have HN := Lib.hid (all_snoc (P := GoodF) HG.out HS.out ⟨HG1.out, hg2 rfl⟩); clear hg2
      go_wp2_with fail
      exact ⟨⟨k + 1, by omega, by go_num, K2.out, HN⟩, by simp [intOf]; omega⟩
    · obtain rfl : k = len := by omega
      go_wp2_with fail
      go_ret
      exact ⟨true, rfl, HB.out, fun _ => by have := HG.out; rw [← HDL.out, List.take_length] at this; exact this⟩
end Go.Proofs.YtgdipdbmllkckaaGreatFmt
