/- The contract of n008_135's elemsFromB2, with fodders: strings that are only read, and import elements whose fodders lie in memory. -/
import Derived.Test.YtddcpnhpjgeldaaD3
import Derived.Test.YtddcpnhpjgeldaaT1
namespace Go.Proofs.Ytddcpnhpjgeldaa
open Go.ChangeShapes Go.WideShapes Go.ChangeAt Go.RowKit

/-- A slice that reads as these strings. -/
def RB (_ : World) (cs : List Value) (s : ByteArray) : Prop := cs = [.string s] ∧ s.size ≤ maxLen
def RdB := Rd 1 RB
theorem RdB.kept0 {w w' : World} {a : Option Addr} {len cap : Nat} {ds : List ByteArray} (h : RdB w a len cap ds) (hk : Kept [] w w') : RdB w' a len cap ds :=
  Rd.kept h hk (by simp) (fun _ _ h => h)
theorem RdB.row {w : World} {a : Option Addr} {len cap : Nat} {ds : List ByteArray} (h : RdB w a len cap ds) (i : Nat) (hi : i < len) :
    ∃ b o s, ds[i]? = some s ∧ a = some ⟨b, o, none⟩ ∧ b < w.heap.size ∧ w.cell? ⟨b, o + i, none⟩ = some (.string s) := by
  have hl : i < ds.length := by have := h.len; omega
  obtain ⟨b, o, cs, h1, h2, h3, ⟨rfl, _⟩, h5⟩ := h.at' i ds[i] (List.getElem?_eq_getElem hl)
  exact ⟨b, o, ds[i], List.getElem?_eq_getElem hl, h1, h2, by simpa using h5 0 (by omega)⟩
theorem RdB.sz {w : World} {a : Option Addr} {len cap : Nat} {ds : List ByteArray} (h : RdB w a len cap ds) : ∀ s ∈ ds, s.size ≤ maxLen := by
  intro s hs
  obtain ⟨i, hi, rfl⟩ := List.mem_iff_getElem.1 hs
  obtain ⟨b, o, cs, h1, h2, h3, ⟨_, h4⟩, h5⟩ := h.at' i ds[i] (List.getElem?_eq_getElem hi)
  exact h4
theorem IsStrs.rdb {w : World} {a : Option Addr} {len cap : Nat} {ss : List ByteArray} (h : IsStrs w a len cap ss) : RdB w a len cap (ss.take len) := by
  obtain ⟨h1, h2, h3, h4, h5⟩ := h.open
  refine ⟨h1, h2, by rw [List.length_take, h3]; omega, fun i d hd => ?_⟩
  rw [List.getElem?_take] at hd
  split at hd
  · rename_i hi
    obtain ⟨b, o, ha, hb, hc⟩ := h5 i hi
    refine ⟨b, o, [.string d], ha, hb, rfl, ⟨rfl, h4 d (List.mem_of_getElem? hd)⟩, fun j hj => ?_⟩
    obtain rfl : j = 0 := by omega
    have := hc i (by omega)
    rw [List.getD_eq_getElem?_getD, hd] at this
    simpa using this
  · cases hd
theorem OwnR.rdb {w : World} {base : Nat} {a : Option Addr} {n cap : Nat} {l : List ByteArray} (h : OwnR 9 1 encB w base (.slice a n cap) l) (hs : ∀ s ∈ l, s.size ≤ maxLen) : RdB w a n cap l :=
  OwnR.rd h encB_len RB l rfl (fun i y d h1 h2 => by rw [h1] at h2; obtain rfl : y = d := by simpa using h2
                                                     exact ⟨rfl, hs y (List.mem_of_getElem? h1)⟩)

/-- The codes of the fodder behind element i. -/
def adjC (dd : List (List ZE)) (i : Nat) : List ZE := (dd.getD i []).map nz
theorem adjC_at {dd : List (List ZE)} {i : Nat} {r : List ZE} (h : dd[i]? = some r) : adjC dd i = r.map nz := by
  unfold adjC
  rw [List.getD_eq_getElem?_getD, h]; rfl
theorem adjC_no {dd : List (List ZE)} {i : Nat} (h : dd.length ≤ i) : adjC dd i = [] := by
  unfold adjC
  rw [List.getD_eq_getElem?_getD, List.getElem?_eq_none h]; rfl
/-- These import elements' fodders lie in memory, from base on. -/
def Adjs (w : World) (base : Nat) (dd : List (List ZE)) (ys : List IE) : Prop := ∀ (i : Nat) y, ys[i]? = some y → ∃ l, Fod w base y.adj.val l ∧ codes l = adjC dd i
theorem Adjs.kept0 {w w' : World} {base : Nat} {dd : List (List ZE)} {ys : List IE} (h : Adjs w base dd ys) (q : Kept [] w w') : Adjs w' base dd ys := fun i y hy => by
  obtain ⟨l, h1, h2⟩ := h i y hy
  exact ⟨l, h1.kept q (by simp), h2⟩
theorem Adjs.nil (w : World) (base : Nat) (dd : List (List ZE)) : Adjs w base dd [] := fun i y hy => by simp at hy
/-- v is a slice of import elements, of the call's own, that bind these variables and hold these fodders. -/
def Els2 (w : World) (base : Nat) (v : Value) (vs : List ByteArray) (dd : List (List ZE)) : Prop := ∃ ys : List IE, OwnR 70 14 encI w base v ys ∧ ys.map IE.var = vs ∧ Adjs w base dd ys
theorem Els2.kept0 {w w' : World} {base : Nat} {v : Value} {vs : List ByteArray} {dd : List (List ZE)} (h : Els2 w base v vs dd) (q : Kept [] w w') : Els2 w' base v vs dd := by
  obtain ⟨ys, h1, h2, h3⟩ := h
  exact ⟨ys, h1.kept0 q, h2, h3.kept0 q⟩
theorem Els2.els {w : World} {base : Nat} {v : Value} {vs : List ByteArray} {dd : List (List ZE)} (h : Els2 w base v vs dd) : Els w base v vs := by
  obtain ⟨ys, h1, h2, h3⟩ := h
  exact ⟨ys, h1, h2⟩
theorem Fod.keptT {T' : Nat} {S : List Nat} {w w' : World} {base : Nat} {v : Value} {l : List FE} (h : Fod w base v l) (hk : Kept S w w') (hS : ∀ g ∈ S, ∃ cs, w.heap[g]? = some (.cells cs T' (0, 0))) (hne : T' ≠ 32) : Fod w' base v l :=
  (OwnR.keptT h.own hk hS hne).fod
theorem Adjs.snoc {w w' : World} {base : Nat} {v : Value} {dd : List (List ZE)} {ys : List IE} {y : IE} {l : List FE} (h : Adjs w base dd ys) (hv : OwnR 70 14 encI w base v ys) (hf : Fod w base y.adj.val l) (hc : codes l = adjC dd ys.length) (q : Kept v.ownBlock.toList w w') : Adjs w' base dd (ys ++ [y]) := by
  have ne : (70 : Nat) ≠ 32 := by decide
  intro i x hx
  by_cases hi : i < ys.length
  · rw [List.getElem?_append_left hi] at hx
    obtain ⟨m, h1, h2⟩ := h i x hx
    exact ⟨m, h1.keptT q hv.typ ne, h2⟩
  · rw [List.getElem?_append_right (by omega)] at hx
    have h0 : i - ys.length = 0 := by
      by_cases h0 : i - ys.length = 0
      · exact h0
      · rw [List.getElem?_eq_none (by simp; omega)] at hx; cases hx
    rw [h0] at hx
    obtain rfl : y = x := by simpa using hx
    obtain rfl : i = ys.length := by omega
    exact ⟨l, hf.keptT q hv.typ ne, hc⟩

set_option maxRecDepth 100000 in
set_option maxHeartbeats 8000000 in
theorem elemsFrom_any (w : World) (a0 : Option Addr) (len0 cap0 : Nat) (vs : List ByteArray) (a1 : Option Addr) (len1 cap1 : Nat) (ks : List ByteArray) (a2 : Option Addr) (len2 cap2 : Nat) (dd : List (List ZE)) (h0 : RdB w a0 len0 cap0 vs) (h1 : RdB w a1 len1 cap1 ks) (h2 : RdR w a2 len2 cap2 dd) (hlen : len0 ≤ 1048576) (hrows : ∀ r ∈ dd, r.length ≤ 1048576) :
    Calls Try.prog 15 #[.slice a0 len0 cap0, .slice a1 len1 cap1, .slice a2 len2 cap2] w fun e w' => ∃ t : Trip, e = .returned t.val ∧ t.2.1 = len0 ∧ Els2 w' w.heap.size t.val vs dd ∧ Kept [] w w' := by
  have le0 := h0.le
  have top0 := h0.top
  have le1 := h1.le
  have top1 := h1.top
  have le2 := h2.le
  have top2 := h2.top
  have hz0 := h0.len
  have hz2 := h2.len
  unfold maxLen at top0 top1 top2
  have HZ0 := Lib.hid hz0; clear hz0
  have HZ2 := Lib.hid hz2; clear hz2
  have HR := Lib.hid hrows; clear hrows
  have H0 := Lib.hid h0; clear h0
  have H1 := Lib.hid h1; clear h1
  have H2 := Lib.hid h2; clear h2
  obtain ⟨i0, hi, hz0, hz1, hz2⟩ := info_parts Try.infoIE
  have HI := Lib.hid hi; clear hi
  have HI0 := Lib.hid hz0; clear hz0
  have HI1 := Lib.hid hz1; clear hz1
  have HI2 := Lib.hid hz2; clear hz2
  go_enter Try.func15, Try.ntmps15
  go_wp2_with (at_make; refine wpList_make_own _ rfl _ _ 37 rfl w.heap.size 70 i0 _ 14 Try.underlying37 HI.out HI0.out HI1.out _ _ _ len0 rfl rfl rfl ?b2 ?b3 (Nat.le_refl _) ?_)
  case b2 => rw [HI2.out]; omega
  case b3 => unfold maxLen; omega
  intro w1 hown hgrow
  have hf : OwnR 70 14 encI w1 w.heap.size (.slice (some ⟨w.heap.size, 0, none⟩) 0 len0) [] := hown
  have hb : Kept [] w w1 := (Kept.refl _ _).grown hgrow (by simp)
  clear hown hgrow
  obtain ⟨B, hB⟩ : ∃ B, w.heap.size = B := ⟨_, rfl⟩
  rw [hB] at hf
  have HBB := Lib.hid hB
  have HF := Lib.hid hf; clear hf
  have HB := Lib.hid hb; clear hb
  rw [hB]
  clear hB
  go_wp2
  go_loopw [7, 8] (fun v i wr => ∃ m : Nat, m ≤ len0 ∧ i = .int .i64 m ∧ Els2 wr B v (vs.take m) dd ∧ Kept [] w wr) (fun _ i _ => len0 - (intOf i).toNat)
  case atStart => exact ⟨0, Nat.zero_le _, rfl, ⟨[], HF.out, rfl, Adjs.nil _ _ _⟩, HB.out⟩
  case round =>
    clear HF HB
    obtain ⟨m, hm, rfl, ⟨ys, hf, hy, had⟩, hb⟩ := hrel
    have HB := Lib.hid hb; clear hb
    have hln : ys.length = m := by have := congrArg List.length hy; simp only [List.length_map, List.length_take] at this; have := HZ0.out; omega
    obtain ⟨va, vc, hv, -⟩ := hf.slice
    rw [hln] at hv
    subst hv
    have HLN := Lib.hid hln; clear hln
    have HY := Lib.hid hy; clear hy
    have HF := Lib.hid hf; clear hf
    have HA := Lib.hid had; clear had
    by_cases hlt : m < len0
    · obtain ⟨b, o, s, hs, rfl, hbl, c0⟩ := (H0.out.kept0 HB.out).row m hlt
      have hsn : vs.take (m + 1) = vs.take m ++ [s] := take_snoc hs
      have HSN := Lib.hid hsn; clear hsn hs
      have H3 : Hid (ys.length + 1 ≤ maxLen) := Lib.hid (by rw [HLN.out]; unfold maxLen; omega)
      have H4 : Hid ((ys.length + 1) * 208 ≤ 140737488355328) := Lib.hid (by rw [HLN.out]; omega)
      have hbw : B ≤ wr.heap.size := by rw [← HBB.out]; exact HB.out.size
      have HBW := Lib.hid hbw; clear hbw
      have fin : ∀ (key : ByteArray) (x : Nat) (t : Trip) (l : List FE) (w3 : World), Kept [] wr w3 → Fod w3 B t.val l → codes l = adjC dd m → ∀ v' w4, OwnR 70 14 encI w4 B v' (ys ++ [⟨t, key, s, x⟩]) → Kept (Value.slice va m vc).ownBlock.toList (w3.alloc (.cells (encI ⟨t, key, s, x⟩).toArray 70)) w4 → Els2 w4 B v' (vs.take (m + 1)) dd ∧ Kept [] w w4 := by
        intro key x t l w3 k3 hft hct v' w4 ho hk4
        have ka : Kept [] wr (w3.alloc (.cells (encI ⟨t, key, s, x⟩).toArray 70)) := k3.alloc _
        refine ⟨⟨_, ho, by rw [List.map_append, HY.out, HSN.out]; rfl, ?_⟩, (HB.out.trans ka).then hk4 (fun g hg => ?_)⟩
        · exact (HA.out.kept0 ka).snoc (y := ⟨t, key, s, x⟩) (HF.out.kept0 ka) (hft.kept ((Kept.refl [] w3).alloc _) (by simp)) (by rw [HLN.out]; exact hct) hk4
        · simp only [Option.mem_toList] at hg
          exact Or.inr (by rw [HBB.out]; exact (OwnR.blk HF.out hg).1)
      have FIN := Lib.hid fin; clear fin
      by_cases hk : m < len1
      · obtain ⟨b1, o1, key, -, rfl, hb1, d0⟩ := (H1.out.kept0 HB.out).row m hk
        by_cases ha : m < len2
        · obtain ⟨b2, o2, r, ra, rl, rc, hr, rfl, hb2, d1, hrz⟩ := (H2.out.kept0 HB.out).row m ha
          have hrl : rl ≤ 1048576 := by have := hrz.len; have := HR.out r (List.mem_of_getElem? hr); omega
          have HRZ := Lib.hid hrz; clear hrz
          have HRR := Lib.hid hr; clear hr
          go_wp2_with fail
          refine (toFodder_any _ ra rl rc r HRZ.out hrl).mono ?_
          rintro e wf ⟨v, l, rfl, hfd, hcd, kf⟩
          obtain ⟨fa, fc, rfl, -⟩ := hfd.slice
          obtain ⟨fn, hfn⟩ : ∃ fn, l.length = fn := ⟨_, rfl⟩
          rw [hfn] at hfd ⊢
          have hfd2 : Fod wf B (.slice fa fn fc) l := hfd.low HBW.out
          have HFD2 := Lib.hid hfd2; clear hfd2 hfd hfn
          have hcd2 : codes l = adjC dd m := by rw [hcd, adjC_at HRR.out]
          have HCD := Lib.hid hcd2; clear hcd2 hcd
          have KF := Lib.hid kf; clear kf
          have c0f := KF.out.cell c0 (by simp)
          go_wp2_with fail
          refine (newImp_any _ key s fa fn fc).mono ?_
          rintro e w3 ⟨x, rfl, k3⟩
          have hk3 : Kept [] wr w3 := KF.out.trans k3
          have ho : ∀ o', OwnR 70 14 encI (w3.alloc o') B (.slice va m vc) ys := fun o' => (HF.out.kept0 hk3).kept0 ((Kept.refl [] w3).alloc o')
          have HO := Lib.hid ho; clear ho
          have hbl3 : ∀ o', B ≤ (w3.alloc o').heap.size := fun o' => by
            have h4 : (w3.alloc o').heap.size = w3.heap.size + 1 := by simp
            have := hk3.size
            have := HBW.out
            omega
          have HBL := Lib.hid hbl3; clear hbl3
          have HK3 := Lib.hid hk3; clear hk3
          have HFD := Lib.hid (HFD2.out.kept k3 (by simp))
          unfold encI
          try unfold Trip.val
          dsimp only
          go_wp2_with (first
            | (at_builtin; refine wpList_push (T := 70) (c := 14) (enc := encI) rfl _ _ 37 rfl B i0 _ 208 Try.underlying37 HI.out HI0.out HI1.out HI2.out rfl (by decide) encI_len encI_one (.slice va m vc) ys rfl (HO.out _) w3.heap.size ⟨(fa, fn, fc), key, s, x⟩ 1 _ rfl (heap_alloc_new w3 _) rfl H3.out H4.out (HBL.out _) ?_)
            | fail)
          intro v' w4 hown4 hk4
          obtain ⟨f1, f2⟩ := FIN.out key x (fa, fn, fc) l w3 HK3.out HFD.out HCD.out v' w4 hown4 hk4
          have F1 := Lib.hid f1; clear f1
          have F2 := Lib.hid f2; clear f2 hown4 hk4
          go_wp2_with fail
          exact ⟨⟨m + 1, by omega, by go_num, F1.out, F2.out⟩, by simp [intOf]; omega⟩
        · have hcd2 : codes [] = adjC dd m := by rw [adjC_no (by rw [HZ2.out]; omega)]; rfl
          have HCD := Lib.hid hcd2; clear hcd2
          go_wp2_with fail
          refine (newImp_any _ key s none 0 0).mono ?_
          rintro e w3 ⟨x, rfl, k3⟩
          have hk3 : Kept [] wr w3 := k3
          have ho : ∀ o', OwnR 70 14 encI (w3.alloc o') B (.slice va m vc) ys := fun o' => (HF.out.kept0 hk3).kept0 ((Kept.refl [] w3).alloc o')
          have HO := Lib.hid ho; clear ho
          have hbl3 : ∀ o', B ≤ (w3.alloc o').heap.size := fun o' => by
            have h4 : (w3.alloc o').heap.size = w3.heap.size + 1 := by simp
            have := hk3.size
            have := HBW.out
            omega
          have HBL := Lib.hid hbl3; clear hbl3
          have HK3 := Lib.hid hk3; clear hk3
          have HFD := Lib.hid (fod_nil w3 B)
          unfold encI
          try unfold Trip.val
          dsimp only
          go_wp2_with (first
            | (at_builtin; refine wpList_push (T := 70) (c := 14) (enc := encI) rfl _ _ 37 rfl B i0 _ 208 Try.underlying37 HI.out HI0.out HI1.out HI2.out rfl (by decide) encI_len encI_one (.slice va m vc) ys rfl (HO.out _) w3.heap.size ⟨(none, 0, 0), key, s, x⟩ 1 _ rfl (heap_alloc_new w3 _) rfl H3.out H4.out (HBL.out _) ?_)
            | fail)
          intro v' w4 hown4 hk4
          obtain ⟨f1, f2⟩ := FIN.out key x (none, 0, 0) [] w3 HK3.out HFD.out HCD.out v' w4 hown4 hk4
          have F1 := Lib.hid f1; clear f1
          have F2 := Lib.hid f2; clear f2 hown4 hk4
          go_wp2_with fail
          exact ⟨⟨m + 1, by omega, by go_num, F1.out, F2.out⟩, by simp [intOf]; omega⟩
      · have hk' := hk
        by_cases ha : m < len2
        · obtain ⟨b2, o2, r, ra, rl, rc, hr, rfl, hb2, d1, hrz⟩ := (H2.out.kept0 HB.out).row m ha
          have hrl : rl ≤ 1048576 := by have := hrz.len; have := HR.out r (List.mem_of_getElem? hr); omega
          have HRZ := Lib.hid hrz; clear hrz
          have HRR := Lib.hid hr; clear hr
          go_wp2_with fail
          refine (toFodder_any _ ra rl rc r HRZ.out hrl).mono ?_
          rintro e wf ⟨v, l, rfl, hfd, hcd, kf⟩
          obtain ⟨fa, fc, rfl, -⟩ := hfd.slice
          obtain ⟨fn, hfn⟩ : ∃ fn, l.length = fn := ⟨_, rfl⟩
          rw [hfn] at hfd ⊢
          have hfd2 : Fod wf B (.slice fa fn fc) l := hfd.low HBW.out
          have HFD2 := Lib.hid hfd2; clear hfd2 hfd hfn
          have hcd2 : codes l = adjC dd m := by rw [hcd, adjC_at HRR.out]
          have HCD := Lib.hid hcd2; clear hcd2 hcd
          have KF := Lib.hid kf; clear kf
          have c0f := KF.out.cell c0 (by simp)
          go_wp2_with fail
          refine (newImp_any _ ⟨#[]⟩ s fa fn fc).mono ?_
          rintro e w3 ⟨x, rfl, k3⟩
          have hk3 : Kept [] wr w3 := KF.out.trans k3
          have ho : ∀ o', OwnR 70 14 encI (w3.alloc o') B (.slice va m vc) ys := fun o' => (HF.out.kept0 hk3).kept0 ((Kept.refl [] w3).alloc o')
          have HO := Lib.hid ho; clear ho
          have hbl3 : ∀ o', B ≤ (w3.alloc o').heap.size := fun o' => by
            have h4 : (w3.alloc o').heap.size = w3.heap.size + 1 := by simp
            have := hk3.size
            have := HBW.out
            omega
          have HBL := Lib.hid hbl3; clear hbl3
          have HK3 := Lib.hid hk3; clear hk3
          have HFD := Lib.hid (HFD2.out.kept k3 (by simp))
          unfold encI
          try unfold Trip.val
          dsimp only
          go_wp2_with (first
            | (at_builtin; refine wpList_push (T := 70) (c := 14) (enc := encI) rfl _ _ 37 rfl B i0 _ 208 Try.underlying37 HI.out HI0.out HI1.out HI2.out rfl (by decide) encI_len encI_one (.slice va m vc) ys rfl (HO.out _) w3.heap.size ⟨(fa, fn, fc), ⟨#[]⟩, s, x⟩ 1 _ rfl (heap_alloc_new w3 _) rfl H3.out H4.out (HBL.out _) ?_)
            | fail)
          intro v' w4 hown4 hk4
          obtain ⟨f1, f2⟩ := FIN.out ⟨#[]⟩ x (fa, fn, fc) l w3 HK3.out HFD.out HCD.out v' w4 hown4 hk4
          have F1 := Lib.hid f1; clear f1
          have F2 := Lib.hid f2; clear f2 hown4 hk4
          go_wp2_with fail
          exact ⟨⟨m + 1, by omega, by go_num, F1.out, F2.out⟩, by simp [intOf]; omega⟩
        · have hcd2 : codes [] = adjC dd m := by rw [adjC_no (by rw [HZ2.out]; omega)]; rfl
          have HCD := Lib.hid hcd2; clear hcd2
          go_wp2_with fail
          refine (newImp_any _ ⟨#[]⟩ s none 0 0).mono ?_
          rintro e w3 ⟨x, rfl, k3⟩
          have hk3 : Kept [] wr w3 := k3
          have ho : ∀ o', OwnR 70 14 encI (w3.alloc o') B (.slice va m vc) ys := fun o' => (HF.out.kept0 hk3).kept0 ((Kept.refl [] w3).alloc o')
          have HO := Lib.hid ho; clear ho
          have hbl3 : ∀ o', B ≤ (w3.alloc o').heap.size := fun o' => by
            have h4 : (w3.alloc o').heap.size = w3.heap.size + 1 := by simp
            have := hk3.size
            have := HBW.out
            omega
          have HBL := Lib.hid hbl3; clear hbl3
          have HK3 := Lib.hid hk3; clear hk3
          have HFD := Lib.hid (fod_nil w3 B)
          unfold encI
          try unfold Trip.val
          dsimp only
          go_wp2_with (first
            | (at_builtin; refine wpList_push (T := 70) (c := 14) (enc := encI) rfl _ _ 37 rfl B i0 _ 208 Try.underlying37 HI.out HI0.out HI1.out HI2.out rfl (by decide) encI_len encI_one (.slice va m vc) ys rfl (HO.out _) w3.heap.size ⟨(none, 0, 0), ⟨#[]⟩, s, x⟩ 1 _ rfl (heap_alloc_new w3 _) rfl H3.out H4.out (HBL.out _) ?_)
            | fail)
          intro v' w4 hown4 hk4
          obtain ⟨f1, f2⟩ := FIN.out ⟨#[]⟩ x (none, 0, 0) [] w3 HK3.out HFD.out HCD.out v' w4 hown4 hk4
          have F1 := Lib.hid f1; clear f1
          have F2 := Lib.hid f2; clear f2 hown4 hk4
          go_wp2_with fail
          exact ⟨⟨m + 1, by omega, by go_num, F1.out, F2.out⟩, by simp [intOf]; omega⟩
    · obtain rfl : m = len0 := by omega
      have hv : vs.take m = vs := by rw [← HZ0.out, List.take_length]
      have hy := HY.out
      rw [hv] at hy
      have HY2 := Lib.hid hy; clear hy hv
      go_wp2
      go_ret
      exact ⟨(va, m, vc), rfl, rfl, ⟨ys, by rw [HBB.out]; exact HF.out, HY2.out, by rw [HBB.out]; exact HA.out⟩, HB.out⟩
end Go.Proofs.Ytddcpnhpjgeldaa
