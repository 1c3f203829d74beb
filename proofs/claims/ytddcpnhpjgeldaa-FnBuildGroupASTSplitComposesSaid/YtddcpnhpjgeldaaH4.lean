/- The walk of the law FnBuildGroupASTChainExact: it returns true at every input, and writes nothing that was there. -/
import Derived.Test.YtddcpnhpjgeldaaH3
import Derived.Test.YtddcpnhpjgeldaaRw
namespace Go.Proofs.Ytddcpnhpjgeldaa
open Go.ChangeShapes Go.WideShapes Go.ChangeAt Go.RowKit

/-- The codes of the fodder that opens the i-th local of a group. -/
def exC (z : List ZE) (dd : List (List ZE)) (i : Nat) : List ZE := if i = 0 then z.map nz else adjC dd (i - 1)
def chL (vs : List ByteArray) (ex : Nat → List ZE) : List (ByteArray × List ZE) := (List.range vs.length).map fun i => (vs.getD i ByteArray.empty, ex i)
theorem chL_len (vs : List ByteArray) (ex : Nat → List ZE) : (chL vs ex).length = vs.length := by simp [chL]
theorem chL_at {vs : List ByteArray} {i : Nat} {s : ByteArray} (h : vs[i]? = some s) (ex : Nat → List ZE) : (chL vs ex)[i]? = some (s, ex i) := by
  have hi := (List.getElem?_eq_some_iff.1 h).1
  unfold chL
  rw [List.getElem?_map, List.getElem?_range hi, Option.map_some, List.getD_eq_getElem?_getD, h]
  rfl
/-- What buildGroupAST is to be told of the elements' fodders. -/
theorem hF_of {w : World} {base b0 : Nat} {vs : List ByteArray} {dd : List (List ZE)} {ys : List IE} {z : List ZE} {gv : Value} {gl : List FE} (hv : ys.map IE.var = vs) (ha : Adjs w base dd ys) (hg : Fod w b0 gv gl) (hc : codes gl = z.map nz) :
    ∀ (i : Nat) y, ys[i]? = some y → ∃ cs b l, (chL vs (exC z dd))[i]? = some (y.var, cs) ∧ Fod w b (fvAt gv ys i) l ∧ codes l = cs := by
  intro i y hy
  have hvi : vs[i]? = some y.var := by rw [← hv, List.getElem?_map, hy]; rfl
  by_cases h0 : i = 0
  · subst h0
    exact ⟨_, b0, gl, chL_at hvi _, hg, hc⟩
  · have hi := (List.getElem?_eq_some_iff.1 hy).1
    obtain ⟨l, h1, h2⟩ := ha (i - 1) ys[i - 1] (List.getElem?_eq_getElem (by omega))
    refine ⟨_, base, l, chL_at hvi _, ?_, ?_⟩
    · unfold fvAt
      rw [if_neg h0, List.getD_eq_getElem?_getD, List.getElem?_eq_getElem (by omega)]
      exact h1
    · unfold exC
      rw [if_neg h0, h2]

theorem Try.infoF : (Try.prog.info? 28).map (fun i => (i.zero, i.size, i.bytes)) = some (some (.slice none 0 0), 1, 24) := by kernel_rfl
theorem flatS (l : List Trip) : flatG encS l = l.map Trip.val := by
  induction l with
  | nil => rfl
  | cons s l ih => simp [flatG, encS, ih]
theorem madeS (n : Nat) : (madeCells #[.slice none 0 0] (n * 1)).toList = flatG encS (List.replicate n (none, 0, 0)) := by
  rw [flatS]
  apply List.ext_getElem?
  intro j
  simp only [madeCells, Array.toList_map, List.getElem?_map, Array.toList_range, List.map_replicate, List.getElem?_replicate, Nat.mul_one]
  by_cases hj : j < n
  · rw [List.getElem?_range hj, if_pos hj]
    simp [Nat.mod_one, Trip.val]
  · rw [List.getElem?_eq_none (by simp; omega), if_neg hj]; rfl
theorem OwnR.setS {w : World} {base g n cap : Nat} {l : List Trip} (h : OwnR 28 1 encS w base (.slice (some ⟨g, 0, none⟩) n cap) l) (hl : l.length = n) (i : Nat) (t : Trip) :
    OwnR 28 1 encS (w.setCell ⟨g, i, none⟩ t.val) base (.slice (some ⟨g, 0, none⟩) n cap) (l.set i t) := by
  subst hl
  have := (World.ownsRow.stored h i t.val).1
  unfold OwnR
  rw [List.length_set, flatS, List.map_set, ← flatS]
  exact this
theorem OwnR.frozenS {w : World} {base g n cap : Nat} {l : List Trip} (h : OwnR 28 1 encS w base (.slice (some ⟨g, 0, none⟩) n cap) l) (hl : l.length = n) (j : Nat) : w.frozen? ⟨g, j, none⟩ = false := by
  subst hl
  exact World.ownsRow.frozenAt h j
theorem OwnR.rdt {w : World} {base : Nat} {a : Option Addr} {n cap : Nat} {ts : List Trip} (h : OwnR 28 1 encS w base (.slice a n cap) ts) : RdT w a n cap ts :=
  OwnR.rd h encS_len RS ts rfl (fun i y d h1 h2 => by rw [h1] at h2; obtain rfl : y = d := by simpa using h2
                                                      rfl)
/-- The first k of these slices are fodders with these codes, the others are nil. -/
def ExpTo (w : World) (ex : Nat → List ZE) (k : Nat) (ts : List Trip) : Prop := ∀ (j : Nat) t, ts[j]? = some t → (j < k → ∃ b l, Fod w b t.val l ∧ codes l = ex j) ∧ (k ≤ j → t = (none, 0, 0))
theorem ExpTo.kept0 {w w' : World} {ex : Nat → List ZE} {k : Nat} {ts : List Trip} (h : ExpTo w ex k ts) (q : Kept [] w w') : ExpTo w' ex k ts := fun j t ht => by
  obtain ⟨h1, h2⟩ := h j t ht
  refine ⟨fun hj => ?_, h2⟩
  obtain ⟨b, l, h3, h4⟩ := h1 hj
  exact ⟨b, l, h3.kept q (by simp), h4⟩
/-- One fodder more is put there. -/
theorem ExpTo.put {w w1 : World} {ex : Nat → List ZE} {k C base n cap : Nat} {ts : List Trip} {t : Trip} {b : Nat} {l : List FE} (h : ExpTo w ex k ts) (q : Kept [] w w1) (ho : OwnR 28 1 encS w1 base (.slice (some ⟨C, 0, none⟩) n cap) ts) (hk : k < ts.length) (hf : Fod w1 b t.val l) (hc : codes l = ex k) :
    ExpTo (w1.setCell ⟨C, k, none⟩ t.val) ex (k + 1) (ts.set k t) := by
  have h1 := h.kept0 q
  have qs : Kept [C] w1 (w1.setCell ⟨C, k, none⟩ t.val) := (Kept.refl [C] w1).setCell (p := ⟨C, k, none⟩) (Or.inl (by simp)) _
  have ht : ∀ g ∈ [C], ∃ cs, w1.heap[g]? = some (.cells cs 28 (0, 0)) := by
    intro g hg
    obtain rfl : g = C := by simpa using hg
    exact ho.typ g (by simp [Value.ownBlock])
  have ne : (28 : Nat) ≠ 32 := by decide
  intro j x hx
  by_cases hjk : j = k
  · subst hjk
    rw [List.getElem?_set_self hk] at hx
    obtain rfl : t = x := by simpa using hx
    exact ⟨fun _ => ⟨b, l, hf.keptT qs ht ne, hc⟩, fun h => by omega⟩
  · rw [List.getElem?_set_ne (fun e => hjk e.symm)] at hx
    obtain ⟨h2, h3⟩ := h1 j x hx
    refine ⟨fun hj => ?_, fun hj => h3 (by omega)⟩
    obtain ⟨b', l', h4, h5⟩ := h2 (by omega)
    exact ⟨b', l', h4.keptT qs ht ne, h5⟩
/-- The next one stays nil. -/
theorem ExpTo.skip {w : World} {ex : Nat → List ZE} {k : Nat} {ts : List Trip} (h : ExpTo w ex k ts) (hc : ex k = []) : ExpTo w ex (k + 1) ts := by
  intro j x hx
  obtain ⟨h2, h3⟩ := h j x hx
  refine ⟨fun hj => ?_, fun hj => h3 (by omega)⟩
  by_cases hjk : j = k
  · subst hjk
    obtain rfl := h3 (Nat.le_refl _)
    exact ⟨0, [], fod_nil w 0, by rw [hc]; rfl⟩
  · exact h2 (by omega)

namespace fnBuildGroupASTChainExact
set_option maxRecDepth 100000 in
set_option maxHeartbeats 16000000 in
theorem walk (a0 : Option Addr) (len0 cap0 : Nat) (z0 : List ByteArray) (a1 : Option Addr) (len1 cap1 : Nat) (z1 : List ByteArray) (a2 : Option Addr) (len2 cap2 : Nat) (z2 : List (List ZE)) (a3 : Option Addr) (len3 cap3 : Nat) (z3 : List ZE) (w : World) (w0 : IsStrs w a0 len0 cap0 z0) (w1 : IsStrs w a1 len1 cap1 z1) (w2 : RdR w a2 len2 cap2 z2) (w3 : RdZ w a3 len3 cap3 z3) :
    Calls Try.prog 5 #[.slice a0 len0 cap0, .slice a1 len1 cap1, .slice a2 len2 cap2, .slice a3 len3 cap3] w fun e w' => e = .returned (.bool true) ∧ Below w.heap.size w w' := by
  obtain ⟨vs, hvs⟩ : ∃ vs, z0.take len0 = vs := ⟨_, rfl⟩
  obtain ⟨le0, top0, -, -, -⟩ := w0.open
  obtain ⟨le1, top1, -, -, -⟩ := w1.open
  have le2 := w2.le
  have top2 := w2.top
  have le3 := w3.le
  have top3 := w3.top
  have hm3 : len3 ≤ maxLen := Nat.le_trans le3 top3
  have HM3 := Lib.hid hm3; clear hm3
  unfold maxLen at top0 top1 top2 top3
  have R0 := Lib.hid w0.rdb
  have W0 := Lib.hid w0; clear w0
  have R1 := Lib.hid w1.rdb
  have W1 := Lib.hid w1; clear w1
  have hl2 := w2.len
  have HL2 := Lib.hid hl2; clear hl2
  have W2 := Lib.hid w2; clear w2
  have hl3 := w3.len
  have HL3 := Lib.hid hl3; clear hl3
  have W3 := Lib.hid w3; clear w3
  go_enter Try.func5, Try.ntmps5
  go_wp2_with fail
  refine (zzB_FnBuildGroupASTChainExact _ _ _ _ z0 _ _ _ z1 _ _ _ z2 _ _ _ W0.out W1.out W2.out HM3.out).mono ?_
  rintro e w1 ⟨b, rfl, k1⟩
  have K1 := Lib.hid k1; clear k1
  cases b
  · go_wp2_with fail
    go_ret
    exact ⟨rfl, K1.out.below (Nat.le_refl _) (by simp)⟩
  by_cases g0 : 65536 < len0
  · go_wp2_with fail
    go_ret
    exact ⟨rfl, K1.out.below (Nat.le_refl _) (by simp)⟩
  by_cases g1 : 65536 < len1
  · go_wp2_with fail
    go_ret
    exact ⟨rfl, K1.out.below (Nat.le_refl _) (by simp)⟩
  by_cases g2 : 65536 < len2
  · go_wp2_with fail
    go_ret
    exact ⟨rfl, K1.out.below (Nat.le_refl _) (by simp)⟩
  by_cases g3 : 65536 < len3
  · go_wp2_with fail
    go_ret
    exact ⟨rfl, K1.out.below (Nat.le_refl _) (by simp)⟩
  go_wp2_with fail
  refine (strBytes_any _ _ _ _ z0 (K1.out.strs W0.out (by simp))).mono ?_
  rintro e w2 ⟨n0, b0, rfl, k2⟩
  have K2 := Lib.hid (K1.out.trans k2); clear k2 K1
  go_wp2_with fail
  refine (strBytes_any _ _ _ _ z1 (K2.out.strs W1.out (by simp))).mono ?_
  rintro e w3 ⟨n1, b1, rfl, k2⟩
  have K3 := Lib.hid (K2.out.trans k2); clear k2 K2
  go_wp2_with fail
  refine (nested_any _ _ _ _ z2 (W2.out.kept0 K3.out)).mono ?_
  rintro e w4 ⟨n2, b2, rfl, k2, HROW⟩
  have K4 := Lib.hid (K3.out.trans k2); clear k2 K3
  cases b0
  · go_wp2_with fail
    go_ret
    exact ⟨rfl, K4.out.below (Nat.le_refl _) (by simp)⟩
  cases b1
  · go_wp2_with fail
    go_ret
    exact ⟨rfl, K4.out.below (Nat.le_refl _) (by simp)⟩
  cases b2
  · go_wp2_with fail
    go_ret
    exact ⟨rfl, K4.out.below (Nat.le_refl _) (by simp)⟩
  have HRW : Hid (∀ r ∈ z2, r.length ≤ 65536) := Lib.hid (HROW.out rfl)
  clear HROW
  go_wp2_with fail
  all_goals first
    | (go_ret; exact ⟨rfl, K4.out.below (Nat.le_refl _) (by simp)⟩)
    | skip
  rw [hvs] at R0
  have hvl := R0.out.len
  have HVL := Lib.hid hvl; clear hvl hvs
  refine (elemsFrom_any _ _ _ _ vs _ _ _ (z1.take len1) _ _ _ z2 (R0.out.kept0 K4.out) (R1.out.kept0 K4.out) (W2.out.kept0 K4.out) (by omega) (fun r hr => by have := HRW.out r hr; omega)).mono ?_
  rintro e w5 ⟨⟨ta, tn, tc⟩, rfl, ht, hel, k5⟩
  dsimp only at ht
  subst ht
  have K5 := Lib.hid (K4.out.trans k5); clear k5 K4
  have HE := Lib.hid hel; clear hel
  unfold Trip.val at HE ⊢
  dsimp only at HE ⊢
  obtain ⟨i0, hi, hz0, hz1, hz2⟩ := info_parts Try.infoF
  have HI := Lib.hid hi; clear hi
  have HI0 := Lib.hid hz0; clear hz0
  have HI1 := Lib.hid hz1; clear hz1
  have HI2 := Lib.hid hz2; clear hz2
  go_wp2_with (at_make; refine wpList_make_full _ rfl _ _ 43 rfl w5.heap.size 28 i0 _ 1 Try.underlying43 HI.out HI0.out HI1.out _ _ _ _ tn rfl rfl rfl rfl ?b2 ?b3 (Nat.le_refl _) ?_)
  case b2 => rw [HI2.out]; omega
  case b3 => unfold maxLen; omega
  intro w6 hown hgrow
  have hk6 : Kept [] w5 w6 := (Kept.refl _ _).grown hgrow (by simp)
  obtain ⟨C, hC⟩ : ∃ C, w5.heap.size = C := ⟨_, rfl⟩
  rw [hC] at hown ⊢
  have HC := Lib.hid hC; clear hC
  have hrow : ∃ ts, OwnR 28 1 encS w6 C (.slice (some ⟨C, 0, none⟩) tn tn) ts ∧ ts.length = tn ∧ ExpTo w6 (exC z3 z2) 0 ts := by
    refine ⟨List.replicate tn (none, 0, 0), ?_, by simp, fun j t ht => ⟨fun h => by omega, fun _ => ?_⟩⟩
    · unfold OwnR
      rw [← madeS, List.length_replicate]
      simpa using hown
    · exact (List.mem_replicate.1 (List.mem_of_getElem? ht)).2
  have HR := Lib.hid hrow; clear hrow hown hgrow
  have K6 := Lib.hid hk6; clear hk6
  go_wp2_with fail
  go_loopw [18] (fun i wr => ∃ k : Nat, k ≤ tn ∧ i = .int .i64 k ∧ (∃ ts, OwnR 28 1 encS wr C (.slice (some ⟨C, 0, none⟩) tn tn) ts ∧ ts.length = tn ∧ ExpTo wr (exC z3 z2) k ts) ∧ Kept [] w5 wr) (fun i _ => tn - (intOf i).toNat)
  case atStart => exact ⟨0, Nat.zero_le _, rfl, HR.out, K6.out⟩
  case round =>
    clear HR K6
    obtain ⟨k, hk, rfl, ⟨ts, ho, htl, hx⟩, hb⟩ := hrel
    have HB := Lib.hid hb; clear hb
    have HO := Lib.hid ho; clear ho
    have HTL := Lib.hid htl; clear htl
    have HX := Lib.hid hx; clear hx
    by_cases hlt : k < tn
    · by_cases hk0 : k = 0
      · subst hk0
        have i2 : (0 : Int) < (tn : Int) := by omega
        go_wp2_with fail
        refine (toFodder_any _ _ _ _ z3 (W3.out.kept0 (K5.out.trans HB.out)) (by omega)).mono ?_
        rintro e w7 ⟨v7, l7, rfl, hf7, hc7, k7⟩
        obtain ⟨fa, fc, hv, -⟩ := hf7.slice
        obtain ⟨fn, hn⟩ : ∃ n, l7.length = n := ⟨_, rfl⟩
        rw [hn] at hv
        subst hv
        clear hn
        have HO7 := HO.out.kept0 k7
        have hkl : 0 < ts.length := by rw [HTL.out]; omega
        have d1 : w7.cell? ⟨C, 0, none⟩ = some ts[0].val := by
          have := HO7.cell encS_len 0 hkl 0 (by omega)
          rwa [Nat.mul_one, Nat.add_zero] at this
        obtain ⟨u, hu⟩ : ∃ u, ts[0].val = u := ⟨_, rfl⟩
        rw [hu] at d1
        clear hu
        have fq := HO7.frozenS HTL.out 0
        have hnew : ∃ ts', OwnR 28 1 encS (w7.setCell ⟨C, 0, none⟩ (.slice fa fn fc)) C (.slice (some ⟨C, 0, none⟩) tn tn) ts' ∧ ts'.length = tn ∧ ExpTo (w7.setCell ⟨C, 0, none⟩ (.slice fa fn fc)) (exC z3 z2) (0 + 1) ts' :=
          ⟨ts.set 0 (fa, fn, fc), HO7.setS HTL.out 0 (fa, fn, fc), by rw [List.length_set]; exact HTL.out, HX.out.put (t := (fa, fn, fc)) k7 HO7 hkl hf7 (by rw [hc7]; rfl)⟩
        have HNEW := Lib.hid hnew; clear hnew HO7 hf7 hc7 hkl
        have hks : Kept [] w5 (w7.setCell ⟨C, 0, none⟩ (.slice fa fn fc)) := (HB.out.trans k7).setCell (Or.inr (by rw [HC.out]; exact Nat.le_refl _)) _
        have HKS := Lib.hid hks; clear hks k7
        go_wp2_with fail
        exact ⟨⟨0 + 1, by omega, by go_num, HNEW.out, HKS.out⟩, by simp [intOf]; omega⟩
      · obtain ⟨q, hq⟩ : ∃ q : Nat, (k : Int) - 1 = q := ⟨k - 1, by omega⟩
        have hqk : k - 1 = q := by omega
        have HQK := Lib.hid hqk; clear hqk
        have hk0' : ((k : Int) == 0) = false := by simpa using hk0
        have i1 : (0 : Int) ≤ (k : Int) := by omega
        have i2 : (k : Int) < (tn : Int) := by omega
        have i3 : (0 : Int) ≤ (q : Int) := by omega
        by_cases hql : q < len2
        · obtain ⟨b, o, r, ra, rl, rc, hr, rfl, hbl, c0, hrz⟩ := (W2.out.kept0 (K5.out.trans HB.out)).row q hql
          have hrl : rl ≤ 1048576 := by have := hrz.len; have := HRW.out r (List.mem_of_getElem? hr); omega
          have HRZ := Lib.hid hrz; clear hrz
          have HRR := Lib.hid hr; clear hr
          have i4 : (q : Int) < (len2 : Int) := by omega
          go_wp2_with fail
          refine (toFodder_any _ ra rl rc r HRZ.out hrl).mono ?_
          rintro e w7 ⟨v7, l7, rfl, hf7, hc7, k7⟩
          obtain ⟨fa, fc, hv, -⟩ := hf7.slice
          obtain ⟨fn, hn⟩ : ∃ n, l7.length = n := ⟨_, rfl⟩
          rw [hn] at hv
          subst hv
          clear hn
          have HO7 := HO.out.kept0 k7
          have hkl : k < ts.length := by rw [HTL.out]; omega
          have d1 : w7.cell? ⟨C, k, none⟩ = some ts[k].val := by
            have := HO7.cell encS_len k hkl 0 (by omega)
            rwa [Nat.mul_one, Nat.add_zero] at this
          obtain ⟨u, hu⟩ : ∃ u, ts[k].val = u := ⟨_, rfl⟩
          rw [hu] at d1
          clear hu
          have fq := HO7.frozenS HTL.out k
          have hnew : ∃ ts', OwnR 28 1 encS (w7.setCell ⟨C, k, none⟩ (.slice fa fn fc)) C (.slice (some ⟨C, 0, none⟩) tn tn) ts' ∧ ts'.length = tn ∧ ExpTo (w7.setCell ⟨C, k, none⟩ (.slice fa fn fc)) (exC z3 z2) (k + 1) ts' :=
            ⟨ts.set k (fa, fn, fc), HO7.setS HTL.out k (fa, fn, fc), by rw [List.length_set]; exact HTL.out, HX.out.put (t := (fa, fn, fc)) k7 HO7 hkl hf7 (by rw [hc7]; unfold exC; rw [if_neg hk0, HQK.out, adjC_at HRR.out])⟩
          have HNEW := Lib.hid hnew; clear hnew HO7 hf7 hc7 hkl
          have hks : Kept [] w5 (w7.setCell ⟨C, k, none⟩ (.slice fa fn fc)) := (HB.out.trans k7).setCell (Or.inr (by rw [HC.out]; exact Nat.le_refl _)) _
          have HKS := Lib.hid hks; clear hks k7
          go_wp2_with fail
          exact ⟨⟨k + 1, by omega, by go_num, HNEW.out, HKS.out⟩, by simp [intOf]; omega⟩
        · have hce : exC z3 z2 k = [] := by
            unfold exC
            rw [if_neg hk0, HQK.out]
            exact adjC_no (by rw [HL2.out]; omega)
          have HNX := Lib.hid (HX.out.skip hce); clear hce
          go_wp2_with fail
          exact ⟨⟨k + 1, by omega, by go_num, ⟨ts, HO.out, HTL.out, HNX.out⟩, HB.out⟩, by simp [intOf]; omega⟩
    · obtain rfl : k = tn := by omega
      go_wp2_with fail
      refine (toFodder_any _ _ _ _ z3 (W3.out.kept0 ((K5.out.trans HB.out).alloc _)) (by omega)).mono ?_
      rintro e w8 ⟨v8, l8, rfl, hf8, hc8, k8⟩
      obtain ⟨fa, fc, hv, -⟩ := hf8.slice
      obtain ⟨fn, hn⟩ : ∃ n, l8.length = n := ⟨_, rfl⟩
      rw [hn] at hv
      subst hv
      clear hn
      have HSEN := Lib.hid (k8.heap (heap_new wr _ _ _ rfl) (by simp))
      have ksz : wr.heap.size < w8.heap.size := by have := k8.size; simp at this; omega
      have KSZ := Lib.hid ksz; clear ksz
      have kw8 : Kept [] wr w8 := ((Kept.refl [] wr).alloc _).trans k8
      have KW8 := Lib.hid kw8; clear kw8 k8
      obtain ⟨ys, hy1, hy2, hy3⟩ := HE.out
      have HFO := Lib.hid (hF_of hy2 (hy3.kept0 (HB.out.trans KW8.out)) hf8 hc8)
      have HY1 := Lib.hid (hy1.kept0 (HB.out.trans KW8.out)).rdi
      have HRT := Lib.hid (HO.out.kept0 KW8.out).rdt
      have HX8 := Lib.hid (HX.out.kept0 KW8.out)
      clear hy1 hy2 hy3 hf8 hc8 HE HO HX
      have K8 := Lib.hid ((K5.out.trans HB.out).trans KW8.out)
      have HLC : Hid ((chL vs (exC z3 z2)).length = k) := Lib.hid (by rw [chL_len, HVL.out])
      go_wp2_with fail
      refine (buildZ_any w8 ta k tc ys fa fn fc wr.heap.size (chL vs (exC z3 z2)) HY1.out HLC.out HFO.out (by omega)).mono ?_
      rintro e w9 ⟨p, rfl, hch, k9⟩
      have HCH := Lib.hid hch; clear hch
      have K9 := Lib.hid (K8.out.trans k9)
      have HRT9 := Lib.hid (HRT.out.kept0 k9)
      have HX9 := Lib.hid (HX8.out.kept0 k9)
      have HSE9 := Lib.hid (k9.heap HSEN.out (by simp)); clear k9
      go_wp2_with fail
      refine (chainMatches_any w9 p wr.heap.size w8.heap.size _ k _ vs _ _ ts (chL vs (exC z3 z2)) HCH.out KSZ.out ⟨_, _, HSE9.out⟩ (R0.out.kept0 K9.out) HRT9.out (fun i s hs => ⟨_, chL_at hs _⟩) (fun i t x ht hx => ?_) HLC.out).mono ?_
      · have hik : i < k := by have := (List.getElem?_eq_some_iff.1 ht).1; rw [HTL.out] at this; exact this
        have hiv : i < vs.length := by rw [HVL.out]; exact hik
        have hvi : vs[i]? = some vs[i] := List.getElem?_eq_getElem hiv
        rw [chL_at hvi] at hx
        obtain rfl := Option.some.inj hx
        exact (HX9.out i t ht).1 hik
      rintro e w10 ⟨rfl, k10⟩
      have K10 := Lib.hid (K9.out.trans k10); clear k10
      go_wp2_with fail
      go_ret
      exact ⟨rfl, K10.out.below (Nat.le_refl _) (by simp)⟩
end fnBuildGroupASTChainExact
end Go.Proofs.Ytddcpnhpjgeldaa
