/- The walk of the law FnBuildGroupASTSplitComposes: it returns true at every input, and writes nothing that was there. -/
import Derived.Test.YtddcpnhpjgeldaaH4
namespace Go.Proofs.Ytddcpnhpjgeldaa
open Go.ChangeShapes Go.WideShapes Go.ChangeAt Go.RowKit

theorem Rd.pre {α : Type} {c : Nat} {R : World → List Value → α → Prop} {w : World} {a : Option Addr} {len cap : Nat} {ds : List α} (h : Rd c R w a len cap ds) (m : Nat) (hm : m ≤ len) : Rd c R w a m cap (ds.take m) := by
  have hl := h.len
  refine ⟨Nat.le_trans hm h.le, h.top, by rw [List.length_take]; omega, fun i d hd => ?_⟩
  rw [List.getElem?_take] at hd
  split at hd
  · exact h.at' i d hd
  · cases hd

theorem rdrN (w : World) : RdR w none 0 0 [] := Rd.zero 1 RRow w none 0 (Nat.zero_le _)
theorem rdbN (w : World) : RdB w none 0 0 [] := Rd.zero 1 RB w none 0 (Nat.zero_le _)
theorem hF_drop {w : World} {base : Nat} {vs : List ByteArray} {dd : List (List ZE)} {ys : List IE} (z : List ZE) (hv : ys.map IE.var = vs) (ha : Adjs w base dd ys) {q : Nat} {y0 : IE} (hq : ys[q]? = some y0) :
    ∀ (i : Nat) y, (ys.drop (q + 1))[i]? = some y → ∃ cs b l, ((chL vs (exC z dd)).drop (q + 1))[i]? = some (y.var, cs) ∧ Fod w b (fvAt y0.adj.val (ys.drop (q + 1)) i) l ∧ codes l = cs := by
  intro i y hy
  rw [List.getElem?_drop] at hy
  have hvi : vs[q + 1 + i]? = some y.var := by rw [← hv, List.getElem?_map, hy]; rfl
  have hi := (List.getElem?_eq_some_iff.1 hy).1
  obtain ⟨l, h1, h2⟩ := ha (q + i) ys[q + i] (List.getElem?_eq_getElem (by omega))
  have he : exC z dd (q + 1 + i) = adjC dd (q + i) := by
    unfold exC
    rw [if_neg (by omega)]
    congr 1
    omega
  refine ⟨exC z dd (q + 1 + i), base, l, by rw [List.getElem?_drop]; exact chL_at hvi _, ?_, by rw [he, h2]⟩
  unfold fvAt
  by_cases h0 : i = 0
  · subst h0
    rw [if_pos rfl]
    have : ys[q + 0] = y0 := by
      obtain ⟨_, e⟩ := List.getElem?_eq_some_iff.1 hq
      exact e
    rw [this] at h1
    exact h1
  · rw [if_neg h0, List.getD_eq_getElem?_getD, List.getElem?_drop, show q + 1 + (i - 1) = q + i by omega, List.getElem?_eq_getElem (by omega)]
    exact h1
theorem hF_take {w : World} {ys : List IE} {L : List (ByteArray × List ZE)} {gv : Value} (h : ∀ (i : Nat) y, ys[i]? = some y → ∃ cs b l, L[i]? = some (y.var, cs) ∧ Fod w b (fvAt gv ys i) l ∧ codes l = cs) (m : Nat) :
    ∀ (i : Nat) y, (ys.take m)[i]? = some y → ∃ cs b l, (L.take m)[i]? = some (y.var, cs) ∧ Fod w b (fvAt gv (ys.take m) i) l ∧ codes l = cs := by
  intro i y hy
  rw [List.getElem?_take] at hy
  split at hy
  · rename_i him
    obtain ⟨cs, b, l, h1, h2, h3⟩ := h i y hy
    refine ⟨cs, b, l, by rw [List.getElem?_take, if_pos him]; exact h1, ?_, h3⟩
    have : fvAt gv (ys.take m) i = fvAt gv ys i := by
      unfold fvAt
      by_cases h0 : i = 0
      · rw [if_pos h0, if_pos h0]
      · rw [if_neg h0, if_neg h0, List.getD_eq_getElem?_getD, List.getD_eq_getElem?_getD, List.getElem?_take, if_pos (by omega)]
    rw [this]
    exact h2
  · cases hy

theorem hF_kept {w w' : World} {ys : List IE} {L : List (ByteArray × List ZE)} {gv : Value} (k : Kept [] w w') (h : ∀ (i : Nat) y, ys[i]? = some y → ∃ cs b l, L[i]? = some (y.var, cs) ∧ Fod w b (fvAt gv ys i) l ∧ codes l = cs) :
    ∀ (i : Nat) y, ys[i]? = some y → ∃ cs b l, L[i]? = some (y.var, cs) ∧ Fod w' b (fvAt gv ys i) l ∧ codes l = cs := by
  intro i y hy
  obtain ⟨cs, b, l, h1, h2, h3⟩ := h i y hy
  exact ⟨cs, b, l, h1, h2.kept k (by simp), h3⟩
/-- The part of a slice from c on, wherever it begins. -/
theorem rdi_if {w : World} {b o n cap : Nat} {ys : List IE} (h : RdI w (some ⟨b, o, none⟩) n cap ys) (c : Nat) (hc : c ≤ n) : RdI w (if cap = c then some ⟨b, o, none⟩ else some ⟨b, o + c * 14, none⟩) (n - c) (cap - c) (ys.drop c) := by
  have hl := h.len
  have hle := h.le
  have hs := Rd.sub h c n hc (Nat.le_refl _)
  rw [List.take_of_length_le (by rw [List.length_drop]; omega)] at hs
  by_cases hcc : cap = c
  · rw [if_pos hcc]
    have h0 : n - c = 0 := by omega
    have h1 : ys.drop c = [] := List.drop_eq_nil_iff.2 (by omega)
    rw [h0, h1]
    exact Rd.zero 14 RI w _ _ (by have := h.top; omega)
  · rw [if_neg hcc]
    exact hs

namespace fnBuildGroupASTSplitComposes
set_option maxRecDepth 100000 in
set_option maxHeartbeats 16000000 in
theorem walk (a0 : Option Addr) (len0 cap0 : Nat) (z0 : List ByteArray) (a1 : Option Addr) (len1 cap1 : Nat) (z1 : List (List ZE)) (a2 : Option Addr) (len2 cap2 : Nat) (z2 : List ZE) (a3 : Int) (w : World) (w0 : IsStrs w a0 len0 cap0 z0) (w1 : RdR w a1 len1 cap1 z1) (w2 : RdZ w a2 len2 cap2 z2) (_ : (Lit.int .i64 a3).wf = true) :
    Calls Try.prog 6 #[.slice a0 len0 cap0, .slice a1 len1 cap1, .slice a2 len2 cap2, .int .i64 a3] w fun e w' => e = .returned (.bool true) ∧ Below w.heap.size w w' := by
  obtain ⟨vs, hvs⟩ : ∃ vs, z0.take len0 = vs := ⟨_, rfl⟩
  obtain ⟨le0, top0, -, -, -⟩ := w0.open
  have le1 := w1.le
  have top1 := w1.top
  have le2 := w2.le
  have top2 := w2.top
  have hm2 : len2 ≤ maxLen := Nat.le_trans le2 top2
  have HM2 := Lib.hid hm2; clear hm2
  unfold maxLen at top0 top1 top2
  have R0 := Lib.hid w0.rdb
  have W0 := Lib.hid w0; clear w0
  have hl1 := w1.len
  have HL1 := Lib.hid hl1; clear hl1
  have W1 := Lib.hid w1; clear w1
  have hl2 := w2.len
  have HL2 := Lib.hid hl2; clear hl2
  have W2 := Lib.hid w2; clear w2
  go_enter Try.func6, Try.ntmps6
  go_wp2_with fail
  refine (zzB_FnBuildGroupASTSplitComposes _ _ _ _ z0 _ _ _ z1 _ _ _ _ W0.out W1.out HM2.out).mono ?_
  rintro e w1 ⟨b, rfl, k1⟩
  have K1 := Lib.hid k1; clear k1
  cases b
  · go_wp2_with fail
    go_ret
    exact ⟨rfl, K1.out.below (Nat.le_refl _) (by simp)⟩
  by_cases g0 : 65536 < len0
  · go_wp2_with fail
    go_ret
    exact ⟨rfl, K1.out.below (Nat.le_refl _) (by simp)⟩
  by_cases g1 : 65536 < len1
  · go_wp2_with fail
    go_ret
    exact ⟨rfl, K1.out.below (Nat.le_refl _) (by simp)⟩
  by_cases g2 : 65536 < len2
  · go_wp2_with fail
    go_ret
    exact ⟨rfl, K1.out.below (Nat.le_refl _) (by simp)⟩
  go_wp2_with fail
  refine (strBytes_any _ _ _ _ z0 (K1.out.strs W0.out (by simp))).mono ?_
  rintro e w2 ⟨n0, b0, rfl, k2⟩
  have K2 := Lib.hid (K1.out.trans k2); clear k2 K1
  go_wp2_with fail
  refine (nested_any _ _ _ _ z1 (W1.out.kept0 K2.out)).mono ?_
  rintro e w3 ⟨n1, b1, rfl, k2, HROW⟩
  have K3 := Lib.hid (K2.out.trans k2); clear k2 K2
  cases b0
  · go_wp2_with fail
    go_ret
    exact ⟨rfl, K3.out.below (Nat.le_refl _) (by simp)⟩
  cases b1
  · go_wp2_with fail
    go_ret
    exact ⟨rfl, K3.out.below (Nat.le_refl _) (by simp)⟩
  have HRW : Hid (∀ r ∈ z1, r.length ≤ 65536) := Lib.hid (HROW.out rfl)
  clear HROW
  by_cases hn0 : len0 = 0
  · subst hn0
    go_wp2_with fail
    all_goals
      go_ret
      exact ⟨rfl, K3.out.below (Nat.le_refl _) (by simp)⟩
  obtain ⟨T, hT⟩ : ∃ T, a3.tmod (len0 : Int) = T := ⟨_, rfl⟩
  have hTa : T.natAbs < len0 := by
    rw [← hT, Int.natAbs_tmod]
    exact Nat.mod_lt _ (by omega)
  obtain ⟨q, hq, hS⟩ : ∃ q : Nat, q < len0 ∧ ((T < 0 ∧ T + (len0 : Int) = q) ∨ (¬ T < 0 ∧ T = q)) := by
    by_cases h : T < 0
    · exact ⟨(T + len0).toNat, by omega, Or.inl ⟨h, by omega⟩⟩
    · exact ⟨T.toNat, by omega, Or.inr ⟨h, by omega⟩⟩
  rcases hS with ⟨hneg, e1⟩ | ⟨hneg, rfl⟩
  all_goals
    go_wp2_with fail
    all_goals first
      | (go_ret; exact ⟨rfl, K3.out.below (Nat.le_refl _) (by simp)⟩)
      | skip
    rw [hvs] at R0
    have hvl := R0.out.len
    have HVL := Lib.hid hvl; clear hvl hvs
    refine (elemsFrom_any _ _ _ _ vs _ _ _ [] _ _ _ z1 (R0.out.kept0 K3.out) (rdbN _) (W1.out.kept0 K3.out) (by omega) (fun r hr => by have := HRW.out r hr; omega)).mono ?_
    rintro e w5 ⟨⟨ta, tn, tc⟩, rfl, ht, hel, k5⟩
    dsimp only at ht
    subst ht
    have K5 := Lib.hid (K3.out.trans k5); clear k5 K3
    unfold Trip.val at hel ⊢
    dsimp only at hel ⊢
    obtain ⟨ys, hy1, hy2, hy3⟩ := hel
    have HYO := Lib.hid hy1.rdi; clear hy1
    have HY2 := Lib.hid hy2; clear hy2
    have HY3 := Lib.hid hy3; clear hy3
    have HLC : Hid ((chL vs (exC z2 z1)).length = tn) := Lib.hid (by rw [chL_len, HVL.out])
    obtain ⟨L, hL⟩ : ∃ L, chL vs (exC z2 z1) = L := ⟨_, rfl⟩
    rw [hL] at HLC
    have HLD := Lib.hid hL; clear hL
    go_wp2_with fail
    refine (toFodder_any _ _ _ _ z2 (W2.out.kept0 (K5.out.alloc _)) (by omega)).mono ?_
    rintro e w8 ⟨v8, l8, rfl, hf8, hc8, k8⟩
    obtain ⟨fa, fc, hv, -⟩ := hf8.slice
    obtain ⟨fn, hn⟩ : ∃ n, l8.length = n := ⟨_, rfl⟩
    rw [hn] at hv
    subst hv
    clear hn
    obtain ⟨sb, hsb⟩ : ∃ sb, w5.heap.size = sb := ⟨_, rfl⟩
    have hsen := k8.heap (heap_new w5 _ _ _ rfl) (by simp)
    have ksz : w5.heap.size < w8.heap.size := by have := k8.size; simp at this; omega
    have kw8 : Kept [] w5 w8 := ((Kept.refl [] w5).alloc _).trans k8
    have KSZ' := Lib.hid ksz
    rw [hsb] at hsen ksz ⊢
    have HSB := Lib.hid hsb
    clear hsb k8
    have HSEN := Lib.hid hsen; clear hsen
    have KSZ := Lib.hid ksz; clear ksz
    have KW8 := Lib.hid kw8; clear kw8
    have HFO := Lib.hid (hF_of HY2.out (HY3.out.kept0 KW8.out) hf8 hc8)
    rw [HLD.out] at HFO
    clear hf8 hc8
    have K8 := Lib.hid (K5.out.trans KW8.out)
    go_wp2_with fail
    refine (buildZ_any w8 ta tn tc ys fa fn fc sb L (HYO.out.kept0 KW8.out) HLC.out HFO.out (by omega)).mono ?_
    rintro e w9 ⟨p, rfl, hch, k9⟩
    have HCH := Lib.hid hch; clear hch HFO
    have KW9 := Lib.hid (KW8.out.trans k9); clear KW8
    have K9 := Lib.hid (K8.out.trans k9); clear K8
    have K89 := Lib.hid k9.size
    have HSE9 := Lib.hid (k9.heap HSEN.out (by simp)); clear k9 HSEN
    go_wp2_with fail
    obtain ⟨b, o, y, hyq, rfl, hbl, hcc⟩ := (HYO.out.kept0 KW9.out).row q hq
    have HYQ := Lib.hid hyq; clear hyq
    obtain ⟨⟨ya, yn, yc⟩, ykey, yvar, yimp⟩ := y
    have e0 := hcc 0 (by omega)
    have e1 := hcc 1 (by omega)
    have e2 := hcc 2 (by omega)
    have e3 := hcc 3 (by omega)
    have e4 := hcc 4 (by omega)
    have e5 := hcc 5 (by omega)
    have e6 := hcc 6 (by omega)
    have e7 := hcc 7 (by omega)
    have e8 := hcc 8 (by omega)
    have e9 := hcc 9 (by omega)
    have e10 := hcc 10 (by omega)
    have e11 := hcc 11 (by omega)
    have e12 := hcc 12 (by omega)
    have e13 := hcc 13 (by omega)
    clear hcc
    simp only [encI, Trip.val, Nat.add_zero, List.getElem?_cons_succ, List.getElem?_cons_zero] at e0 e1 e2 e3 e4 e5 e6 e7 e8 e9 e10 e11 e12 e13
    have E0 := Lib.hid e0
    have E1 := Lib.hid e1
    have E2 := Lib.hid e2
    have E3 := Lib.hid e3
    have E4 := Lib.hid e4
    have E5 := Lib.hid e5
    have E6 := Lib.hid e6
    have E7 := Lib.hid e7
    have E8 := Lib.hid e8
    have E9 := Lib.hid e9
    have E10 := Lib.hid e10
    have E11 := Lib.hid e11
    have E12 := Lib.hid e12
    have E13 := Lib.hid e13
    obtain ⟨c, hc⟩ : ∃ c : Nat, (q : Int) + 1 = c := ⟨q + 1, by omega⟩
    rw [hc]
    have hcq : q + 1 = c := by omega
    clear hc
    have HIF := Lib.hid (rdi_if (HYO.out.kept0 KW9.out) c (by omega))
    have HLD2 : Hid ((L.drop c).length = tn - c) := Lib.hid (by rw [List.length_drop, HLC.out])
    have KSZ9 : Hid (sb + 1 ≤ w9.heap.size) := Lib.hid (by rw [← HSB.out]; exact Nat.succ_le_of_lt (Nat.lt_of_lt_of_le KSZ'.out K89.out))
    have HFD := Lib.hid (hF_drop z2 HY2.out (HY3.out.kept0 KW9.out) HYQ.out)
    rw [HLD.out, hcq] at HFD
    have HCQ := Lib.hid hcq
    have i1 : (0 : Int) ≤ (q : Int) := by omega
    have i2 : (q : Int) < (tn : Int) := by omega
    have i3 : (c : Int) ≤ (tn : Int) := by omega
    have i4 : (0 : Int) ≤ (c : Int) := by omega
    have hi2 : IntKind.i64.wrap ((c : Int) - 1) = q := by rw [IntKind.wrap_i64]; omega
    have hi3 : wrap64 ((c : Int) - 1) = q := by unfold wrap64; omega
    clear hcq
    have i5 : (tn : Int) ≤ (tc : Int) := by have := HYO.out.le; omega
    have kr := Kept.refl [] w9
    go_region_held3 (fun w' => w'.cell? ⟨b, o + q * 14, none⟩ = some (.slice ya yn yc) ∧ w'.cell? ⟨b, o + q * 14 + 1, none⟩ = some (.string ykey) ∧ w'.cell? ⟨b, o + q * 14 + 2, none⟩ = some (.slice none 0 0) ∧ w'.cell? ⟨b, o + q * 14 + 3, none⟩ = some (.iface 92 (.pointer (some ⟨yimp, 0, none⟩))) ∧ w'.cell? ⟨b, o + q * 14 + 4, none⟩ = some (.slice none 0 0) ∧ w'.cell? ⟨b, o + q * 14 + 5, none⟩ = some (.string yvar) ∧ w'.cell? ⟨b, o + q * 14 + 6, none⟩ = some (.slice none 0 0) ∧ w'.cell? ⟨b, o + q * 14 + 7, none⟩ = some (.pointer none) ∧ w'.cell? ⟨b, o + q * 14 + 8, none⟩ = some (.pointer none) ∧ w'.cell? ⟨b, o + q * 14 + 9, none⟩ = some (.string ⟨#[]⟩) ∧ w'.cell? ⟨b, o + q * 14 + 10, none⟩ = some (.int .i64 0) ∧ w'.cell? ⟨b, o + q * 14 + 11, none⟩ = some (.int .i64 0) ∧ w'.cell? ⟨b, o + q * 14 + 12, none⟩ = some (.int .i64 0) ∧ w'.cell? ⟨b, o + q * 14 + 13, none⟩ = some (.int .i64 0) ∧ Kept [] w9 w')
      ((try go_split_ands; refine (fun h : Kept [] w9 _ => ⟨h.cell E0.out (by simp), h.cell E1.out (by simp), h.cell E2.out (by simp), h.cell E3.out (by simp), h.cell E4.out (by simp), h.cell E5.out (by simp), h.cell E6.out (by simp), h.cell E7.out (by simp), h.cell E8.out (by simp), h.cell E9.out (by simp), h.cell E10.out (by simp), h.cell E11.out (by simp), h.cell E12.out (by simp), h.cell E13.out (by simp), h⟩) ?_; first | assumption | exact Kept.trans (by assumption) k2 | exact Kept.trans (by assumption) k3 | exact Kept.trans (Kept.drew (by assumption)) k2 | exact Kept.drew (by assumption)))
      (first
      | (go_at_call 22; refine (elemAdj_any _ _ _ _ _ _ _ _ _ _ _ _ _ _ _).mono ?_; rintro e wk ⟨rfl, k2⟩; dsimp only)
      | (go_at_call 19; try go_split_ands; refine (buildZ_any _ _ _ _ (ys.drop c) ya yn yc sb (L.drop c) (HIF.out.kept0 (by assumption)) HLD2.out (hF_kept (by assumption) HFD.out) (by omega)).mono ?_; rintro e w11 ⟨p', rfl, hch2, k3⟩; have hch3 := ChainL.low (lo' := sb + 1) (by have := Kept.size (show Kept [] w9 _ by assumption); have := KSZ9.out; omega) _ _ hch2; dsimp only))
    all_goals
      try go_split_ands
      have k911 : Kept [] w9 w11 := by assumption
      have HC2 := Lib.hid hch3; clear hch2 hch3
      have KW11 := Lib.hid (KW9.out.trans k911)
      have K11 := Lib.hid (K9.out.trans k911)
      have HCH11 := Lib.hid (ChainL.kept0 k911 _ _ HCH.out)
      have HSE11 := Lib.hid (k911.heap HSE9.out (by simp))
      have KS11 : Hid (sb + 1 ≤ w11.heap.size) := Lib.hid (Nat.le_trans KSZ9.out k911.size)
      clear k911 k2 k3 kr
      clear HIF HLD2 HFD E0 E1 E2 E3 E4 E5 E6 E7 E8 E9 E10 E11 E12 E13 e0 e1 e2 e3 e4 e5 e6 e7 e8 e9 e10 e11 e12 e13
      have HPRE : Hid (∀ cc, cc = tc → RdI w11 (some ⟨b, o, none⟩) c cc (ys.take c)) := Lib.hid (fun cc e => e ▸ Rd.pre (HYO.out.kept0 KW11.out) c (by omega))
      have HLT : Hid ((L.take c).length = c) := Lib.hid (by rw [List.length_take, HLC.out]; omega)
      have kr := Kept.refl [] w11
      have h0c : (0 : Int) ≤ (c : Int) := by omega
      have i6 : (c : Int) ≤ (tc : Int) := by omega
      go_wp2_with fail
      all_goals
        go_region_held3 (fun w' => 0 ≤ w'.heap.size ∧ Kept [] w11 w')
          ((try go_split_ands; refine (fun h : Kept [] w11 _ => ⟨Nat.zero_le _, h⟩) ?_; first | assumption | exact Kept.trans (by assumption) k2 | exact Kept.trans (Kept.drew (by assumption)) k2 | exact Kept.trans (by assumption) k3 | exact Kept.drew (by assumption)))
          (first
          | (go_at_call 11; try go_split_ands; refine (toFodder_any _ _ _ _ z2 (W2.out.kept0 (K11.out.trans (by assumption))) (by omega)).mono ?_; rintro e wf ⟨vf, lf, rfl, hff, hcf, k2⟩; obtain ⟨xa, xc, hv, -⟩ := hff.slice; obtain ⟨xn, hn⟩ : ∃ n, lf.length = n := ⟨_, rfl⟩; rw [hn] at hv; subst hv; clear hn; dsimp only)
          | (go_at_call 19; try go_split_ands; refine (buildZ_any _ _ _ _ (ys.take c) xa xn xc p' (L.take c) ((HPRE.out _ (by omega)).kept0 (by assumption)) HLT.out (hF_take (by have h := hF_of HY2.out (HY3.out.kept0 (KW11.out.trans (by assumption))) hff hcf; rw [HLD.out] at h; exact h) c) (by omega)).mono ?_; rintro e w13 ⟨p3, rfl, hch4, k3⟩; have hch5 := ChainL.low (lo' := sb + 1) (by have := Kept.size (show Kept [] w11 _ by assumption); have := KS11.out; omega) _ _ hch4; dsimp only))
        all_goals
          try go_split_ands
          have k1113 : Kept [] w11 w13 := by assumption
          have K13 := Lib.hid (K11.out.trans k1113)
          have HA := Lib.hid (ChainL.kept0 k1113 _ _ (ChainL.low (lo' := sb + 1) (Nat.succ_le_of_lt KSZ.out) _ _ HCH11.out))
          have HB := Lib.hid (ChainL.app _ (ChainL.kept0 k1113 _ _ HC2.out) _ _ hch5)
          rw [List.take_append_drop] at HB
          have HSE13 := Lib.hid (k1113.heap HSE11.out (by simp))
          clear k1113 k2 k3 hch4 hch5 hff hcf
          go_wp2_with fail
          go_show
          refine (chainsAgree_any w13 p p3 sb (sb + 1) tn L HA.out HB.out (Nat.lt_succ_self _) ⟨_, _, HSE13.out⟩ HLC.out (by omega)).mono ?_
          rintro e w14 ⟨rfl, k14⟩
          have K14 := Lib.hid (K13.out.trans k14); clear k14
          go_wp2_with fail
          go_ret
          exact ⟨rfl, K14.out.below (Nat.le_refl _) (by simp)⟩
end fnBuildGroupASTSplitComposes
end Go.Proofs.Ytddcpnhpjgeldaa
