/- The walk of the law FnGroupEndsAfterTailMonotoneAndSameLineCommentNeutral: it returns true at every input, and writes nothing that was there. -/
import Derived.Test.YtddcpnhpjgeldaaG3
import Derived.Test.YtddcpnhpjgeldaaZB1
import Derived.Laws.AppendOwnNone
namespace Go.Proofs.Ytddcpnhpjgeldaa
open Go.ChangeShapes Go.WideShapes Go.ChangeAt Go.RowKit

/-- A fodder of the call's own is appended to another. -/
theorem wpList_append_fod {w : World} {ops : Array Oper} {rest : List Oper} {o : Oper} {a : Act} {Q : Exit → Act → World → Prop} (hgd : o.guard = none) (s x : Operand)
    (ho : o.op = .call { callee := .builtin .append, args := #[s, x], argTypes := #[28, 28] }) (base b2 : Nat) (v v2 : Value) (l l2 : List FE) (hs : a.eval s = v) (hv : Fod w base v l) (hx : a.eval x = v2) (h2 : Fod w b2 v2 l2)
    (hlen : l.length + l2.length ≤ 4194304) (hbase : base ≤ w.heap.size)
    (h : ∀ v' w', Fod w' base v' (l ++ l2) → Kept v.ownBlock.toList w w' → wpList Try.prog ops Q rest (a.put o.dst v') w') : wpList Try.prog ops Q (o :: rest) a w := by
  obtain ⟨i0, hi, hz0, hz1, hz2⟩ := info_parts Try.infoFE
  have h2' := h2
  rcases h2.2 with ⟨e1, e2⟩ | ⟨g, cap, cur, e1, e2, e3, e4, e5, e6, e7⟩
  · have : l2 = [] := List.length_eq_zero_iff.1 e2
    subst this
    refine wpList_append_own_none hgd s x 28 ho base 32 i0 4 Try.underlying28 hi v l.length (flat l) hs hv (hx.trans e1) ?_
    exact h v w (by rw [List.append_nil]; exact hv) (Kept.refl _ _)
  · subst e1
    refine wpList_append_own w hgd s x 28 ho base 32 i0 _ 4 48 Try.underlying28 hi hz0 hz1 hz2 rfl (by decide) v l.length (flat l) hs hv ⟨g, 0, none⟩ l2.length cap (flat l2) hx (flat_length l2) (fun j u hu => World.ownsRow.cells h2' (g := g) rfl j u hu) (FE.cells_one l2) (by unfold maxLen; omega) (by omega) hbase ?_
    intro v' w' h3 h4 _
    refine h v' w' ?_ ((Kept.refl _ _).grown h4 (fun k hk => Or.inl (by simp [hk])))
    unfold Fod
    rw [List.length_append, flat_append]
    exact h3

theorem fod_lit (w : World) (base : Nat) (hb : base ≤ w.heap.size) (cs : Array Value) (l : List FE) (hm : l.length ≤ maxLen) (h : cs.toList = flat l) : Fod (w.alloc (.cells cs 32)) base (.slice (some ⟨w.heap.size, 0, none⟩) l.length l.length) l := by
  have hs : cs.size = l.length * 4 := by rw [← Array.length_toList, h, flat_length]
  have := World.ownsRow_lit (e := 32) (size := 4) w cs l.length hb hm hs
  unfold Fod
  rw [h] at this
  exact this

theorem outer_ends (w : World) (base T b2 : Nat) (fv : Value) (l : List FE) (h : Outer w base T fv) (hf : Fod w b2 fv l) :
    Calls Try.prog 12 #[.pointer (some ⟨T, 0, none⟩)] w (Bl (ends (codes l)) w) := by
  obtain ⟨nb, v, ys, h1, h2, h3, h4, h5⟩ := h
  have := ends_local w T nb base b2 v ys fv l h1 h4 h2 h3 hf
  rw [h5] at this
  exact endsZ this

namespace fnGroupEndsAfterTailMonotoneAndSameLineCommentNeutral
set_option maxRecDepth 100000 in
set_option maxHeartbeats 8000000 in
theorem walk (a0 : Option Addr) (len0 cap0 : Nat) (z0 : List ZE) (a1 : Option Addr) (len1 cap1 : Nat) (z1 : List ZE) (a2 : Option Addr) (len2 cap2 : Nat) (z2 : List ByteArray) (a3 : Option Addr) (len3 cap3 : Nat) (z3 : List ByteArray) (w : World) (w0 : RdZ w a0 len0 cap0 z0) (w1 : RdZ w a1 len1 cap1 z1) (w2 : IsStrs w a2 len2 cap2 z2) (w3 : IsStrs w a3 len3 cap3 z3) :
    Calls Try.prog 3 #[.slice a0 len0 cap0, .slice a1 len1 cap1, .slice a2 len2 cap2, .slice a3 len3 cap3] w fun e w' => e = .returned (.bool true) ∧ Below w.heap.size w w' := by
  have le0 := w0.le
  have top0 := w0.top
  have le1 := w1.le
  have top1 := w1.top
  obtain ⟨le2, top2, -, -, -⟩ := w2.open
  obtain ⟨le3, top3, -, -, -⟩ := w3.open
  have hm0 : len0 ≤ maxLen := Nat.le_trans le0 top0
  have hm1 : len1 ≤ maxLen := Nat.le_trans le1 top1
  have HM0 := Lib.hid hm0; clear hm0
  have HM1 := Lib.hid hm1; clear hm1
  unfold maxLen at top0 top1 top2 top3
  have hl0 := w0.len
  have hl1 := w1.len
  have HL0 := Lib.hid hl0; clear hl0
  have HL1 := Lib.hid hl1; clear hl1
  have W0 := Lib.hid w0; clear w0
  have W1 := Lib.hid w1; clear w1
  have R2 := Lib.hid w2.rdb
  have R3 := Lib.hid w3.rdb
  have W2 := Lib.hid w2; clear w2
  have W3 := Lib.hid w3; clear w3
  go_enter Try.func3, Try.ntmps3
  go_wp2_with fail
  refine (zzB_FnGroupEndsAfterTailMonotoneAndSameLineCommentNeutral _ _ _ _ _ _ _ _ _ _ z2 _ _ _ z3 HM0.out HM1.out W2.out W3.out).mono ?_
  rintro e w1 ⟨b, rfl, k1⟩
  have K1 := Lib.hid k1; clear k1
  cases b
  · go_wp2_with fail
    go_ret
    exact ⟨rfl, K1.out.below (Nat.le_refl _) (by simp)⟩
  by_cases g0 : 65536 < len0
  · go_wp2_with fail
    go_ret
    exact ⟨rfl, K1.out.below (Nat.le_refl _) (by simp)⟩
  by_cases g1 : 65536 < len1
  · go_wp2_with fail
    go_ret
    exact ⟨rfl, K1.out.below (Nat.le_refl _) (by simp)⟩
  by_cases g2 : 65536 < len2
  · go_wp2_with fail
    go_ret
    exact ⟨rfl, K1.out.below (Nat.le_refl _) (by simp)⟩
  by_cases g3 : 65536 < len3
  · go_wp2_with fail
    go_ret
    exact ⟨rfl, K1.out.below (Nat.le_refl _) (by simp)⟩
  go_wp2_with fail
  refine (strBytes_any _ _ _ _ z2 (K1.out.strs W2.out (by simp))).mono ?_
  rintro e w2 ⟨n0, b0, rfl, k2⟩
  have K2 := Lib.hid (K1.out.trans k2); clear k2 K1
  go_wp2_with fail
  refine (strBytes_any _ _ _ _ z3 (K2.out.strs W3.out (by simp))).mono ?_
  rintro e w3 ⟨n1, b1, rfl, k3⟩
  have K3 := Lib.hid (K2.out.trans k3); clear k3 K2
  cases b0
  · go_wp2_with fail
    go_ret
    exact ⟨rfl, K3.out.below (Nat.le_refl _) (by simp)⟩
  cases b1
  · go_wp2_with fail
    go_ret
    exact ⟨rfl, K3.out.below (Nat.le_refl _) (by simp)⟩
  go_wp2_with fail
  all_goals first
    | (go_ret; exact ⟨rfl, K3.out.below (Nat.le_refl _) (by simp)⟩)
    | skip
  refine (toFodder_any _ _ _ _ z0 (W0.out.kept0 K3.out) (by omega)).mono ?_
  rintro e w4 ⟨v4, l4, rfl, hf4, hc4, k4⟩
  have hl4 : l4.length = len0 := by have := congrArg List.length hc4; simp only [codes, List.length_map] at this; rw [this, HL0.out]
  have HL4 := Lib.hid hl4; clear hl4
  have HC4 := Lib.hid hc4; clear hc4
  obtain ⟨fa, fc, hv, -⟩ := hf4.slice
  obtain ⟨n4, hn⟩ : ∃ n, l4.length = n := ⟨_, rfl⟩
  rw [hn] at hv
  subst hv
  clear hn
  have ha4 : ∀ g, (Value.slice fa n4 fc).ownBlock = some g → g < w4.heap.size := fun g hg => (World.ownsRow.lt hf4 g hg).2
  have HA4 := Lib.hid ha4; clear ha4
  have HF4 := Lib.hid hf4; clear hf4
  have K4' := Lib.hid (K3.out.trans k4).size
  have K4 := Lib.hid (K3.out.trans k4); clear k4 K3
  go_wp2_with fail
  refine (toFodder_any _ _ _ _ z0 (W0.out.kept0 K4.out) (by omega)).mono ?_
  rintro e w5 ⟨v5, l5, rfl, hf5, hc5, k5⟩
  have hl5 : l5.length = len0 := by have := congrArg List.length hc5; simp only [codes, List.length_map] at this; rw [this, HL0.out]
  have HL5 := Lib.hid hl5; clear hl5
  have HC5 := Lib.hid hc5; clear hc5
  have HF5 := Lib.hid hf5; clear hf5
  have HF4b := Lib.hid (HF4.out.kept k5 (by simp)); clear HF4
  have HSZ5 := Lib.hid k5.size
  have K5 := Lib.hid (K4.out.trans k5); clear k5 K4
  go_wp2_with fail
  refine (toFodder_any _ _ _ _ z1 (W1.out.kept0 K5.out) (by omega)).mono ?_
  rintro e w6 ⟨v6, l6, rfl, hf6, hc6, k6⟩
  have hl6 : l6.length = len1 := by have := congrArg List.length hc6; simp only [codes, List.length_map] at this; rw [this, HL1.out]
  have HL6 := Lib.hid hl6; clear hl6
  have HC6 := Lib.hid hc6; clear hc6
  have HF6 := Lib.hid hf6; clear hf6
  have HF4c := Lib.hid (HF4b.out.kept k6 (by simp)); clear HF4b
  have HF5b := Lib.hid (HF5.out.kept k6 (by simp)); clear HF5
  have HBS : Hid (w4.heap.size ≤ w6.heap.size) := Lib.hid (Nat.le_trans HSZ5.out k6.size)
  have K6 := Lib.hid (K5.out.trans k6); clear k6 K5
  go_wp2_with (first
    | (at_builtin; refine wpList_append_fod rfl _ _ rfl w4.heap.size w5.heap.size v5 v6 l5 l6 rfl HF5b.out rfl HF6.out (by rw [HL5.out, HL6.out]; omega) HBS.out ?_)
    | fail)
  intro v7 w7 hf7 k7
  have HF4d := Lib.hid (HF4c.out.kept k7 (fun g hg hm => by
    simp only [Option.mem_toList] at hm
    have h1 := HA4.out g hg
    have h2 := (World.ownsRow.lt HF5b.out g hm).1
    omega))
  have HF4d' := HF4d
  clear HF4c
  have k7' : Kept [] w w7 := K6.out.then k7 (fun g hg => by
    simp only [Option.mem_toList] at hg
    have h2 := (World.ownsRow.lt HF5b.out g hg).1
    have h3 := K4'.out
    exact Or.inr (by omega))
  have K7 := Lib.hid k7'; clear k7' k7 K6 HF5b HF6
  have HC7 : Hid (codes (l5 ++ l6) = z0.map nz ++ z1.map nz) := Lib.hid (by rw [codes, List.map_append]; exact congr (congrArg _ HC5.out) HC6.out)
  obtain ⟨fa7, fc7, hv, -⟩ := hf7.slice
  obtain ⟨n7, hn⟩ : ∃ n, (l5 ++ l6).length = n := ⟨_, rfl⟩
  rw [hn] at hv
  subst hv
  clear hn
  have HF7 := Lib.hid hf7; clear hf7
  go_wp2_with fail
  have hfl : Fod ((w7.alloc (.cells #[.string ⟨#[47, 42, 32, 99, 32, 42, 47]⟩] 9)).alloc (.cells #[.slice (some ⟨w7.heap.size, 0, none⟩) 1 1, .int .i64 1, .int .i64 0, .int .i64 0] 32)) (w7.heap.size + 1) (.slice (some ⟨w7.heap.size + 1, 0, none⟩) 1 1) [⟨some ⟨w7.heap.size, 0, none⟩, 1, 1, 1, 0, 0⟩] := by
    have := fod_lit (w7.alloc (.cells #[.string ⟨#[47, 42, 32, 99, 32, 42, 47]⟩] 9)) (w7.heap.size + 1) (by simp) #[.slice (some ⟨w7.heap.size, 0, none⟩) 1 1, .int .i64 1, .int .i64 0, .int .i64 0] [⟨some ⟨w7.heap.size, 0, none⟩, 1, 1, 1, 0, 0⟩] (by unfold maxLen; simp) rfl
    simpa using this
  have k8 : Kept [] w7 ((w7.alloc (.cells #[.string ⟨#[47, 42, 32, 99, 32, 42, 47]⟩] 9)).alloc (.cells #[.slice (some ⟨w7.heap.size, 0, none⟩) 1 1, .int .i64 1, .int .i64 0, .int .i64 0] 32)) := ((Kept.refl _ _).alloc _).alloc _
  obtain ⟨w8, hw8⟩ : ∃ w8, ((w7.alloc (.cells #[.string ⟨#[47, 42, 32, 99, 32, 42, 47]⟩] 9)).alloc (.cells #[.slice (some ⟨w7.heap.size, 0, none⟩) 1 1, .int .i64 1, .int .i64 0, .int .i64 0] 32)) = w8 := ⟨_, rfl⟩
  obtain ⟨G, hG⟩ : ∃ G, w7.heap.size = G := ⟨_, rfl⟩
  have HG := Lib.hid hG
  rw [hw8] at hfl k8 ⊢
  clear hw8
  rw [hG] at hfl ⊢
  clear hG
  have HFL := Lib.hid hfl; clear hfl
  have HK8 := Lib.hid k8; clear k8
  have HF4e := Lib.hid (HF4d.out.kept HK8.out (by simp)); clear HF4d
  have HF7b := Lib.hid (HF7.out.kept HK8.out (by simp))
  refine (toFodder_any _ _ _ _ z0 (W0.out.kept0 (K7.out.trans HK8.out)) (by omega)).mono ?_
  rintro e w9 ⟨v9, l9, rfl, hf9, hc9, k9⟩
  have hl9 : l9.length = len0 := by have := congrArg List.length hc9; simp only [codes, List.length_map] at this; rw [this, HL0.out]
  have HL9 := Lib.hid hl9; clear hl9
  have HC9 := Lib.hid hc9; clear hc9
  have HF9 := Lib.hid hf9; clear hf9
  have HFL2 := Lib.hid (HFL.out.kept k9 (by simp))
  have HF4f := Lib.hid (HF4e.out.kept k9 (by simp)); clear HF4e
  have HF7c := Lib.hid (HF7b.out.kept k9 (by simp)); clear HF7b
  have K9 := Lib.hid ((K7.out.trans HK8.out).trans k9)
  have HBS9 : Hid (G + 1 ≤ w9.heap.size) := Lib.hid (by
    have h1 := (World.ownsRow.lt HFL2.out (G + 1) rfl).2
    omega)
  clear k9
  go_wp2_with (first
    | (at_builtin; refine wpList_append_fod rfl _ _ rfl (G + 1) w8.heap.size (.slice (some ⟨G + 1, 0, none⟩) 1 1) v9 [⟨some ⟨G, 0, none⟩, 1, 1, 1, 0, 0⟩] l9 rfl HFL2.out rfl HF9.out (by rw [HL9.out]; simp; omega) HBS9.out ?_)
    | fail)
  intro v10 w10 hf10 k10
  have far : ∀ {v : Value} {b : Nat} {l : List FE}, Fod w7 b v l → Fod w9 b v l → Fod w10 b v l := by
    intro v b l h1 h2
    refine h2.kept k10 (fun g hg hm => ?_)
    have e1 := (World.ownsRow.lt h1 g hg).2
    simp [Value.ownBlock] at hm
    have e2 := HG.out
    omega
  have HF7d := Lib.hid (far HF7.out HF7c.out)
  have HF4g := Lib.hid (far HF4d'.out HF4f.out)
  clear HF7c HF4f HF7 far HF4d'
  have k10' : Kept [] w w10 := K9.out.then k10 (fun g hg => by
    simp [Value.ownBlock] at hg
    have e2 := HG.out
    have e3 := K7.out.size
    exact Or.inr (by omega))
  have K10 := Lib.hid k10'; clear k10' k10 K9 HFL2 HF9 HFL HK8 K7
  have HC10 : Hid (codes ((⟨some ⟨G, 0, none⟩, 1, 1, 1, 0, 0⟩ : FE) :: l9) = ⟨1, 0, 0, 1⟩ :: z0.map nz) := Lib.hid (by rw [codes, List.map_cons]; exact congrArg _ HC9.out)
  obtain ⟨fa10, fc10, hv, -⟩ := hf10.slice
  obtain ⟨n10, hn⟩ : ∃ n, ((⟨some ⟨G, 0, none⟩, 1, 1, 1, 0, 0⟩ : FE) :: l9).length = n := ⟨_, rfl⟩
  rw [hn] at hv
  subst hv
  clear hn
  have HF10 := Lib.hid hf10; clear hf10
  go_wp2_with fail
  refine (outerOver_any _ fa n4 fc _ _ _ _ _ _ _ _ (R2.out.kept0 K10.out) (R3.out.kept0 K10.out) (by omega)).mono ?_
  rintro e w11 ⟨T1, rfl, ho1, k11⟩
  have HO1 := Lib.hid ho1; clear ho1
  have HFa := Lib.hid (HF4g.out.kept k11 (by simp)); clear HF4g
  have HFb := Lib.hid (HF7d.out.kept k11 (by simp)); clear HF7d
  have HFc := Lib.hid (HF10.out.kept k11 (by simp)); clear HF10
  have K11 := Lib.hid (K10.out.trans k11); clear k11 K10
  go_wp2_with fail
  refine (outer_ends _ _ T1 _ _ _ HO1.out HFa.out).mono ?_
  rw [HC4.out]
  rintro e w12 ⟨rfl, k12⟩
  have HFb2 := Lib.hid (HFb.out.kept k12 (by simp)); clear HFb
  have HFc2 := Lib.hid (HFc.out.kept k12 (by simp)); clear HFc
  have K12 := Lib.hid (K11.out.trans k12); clear k12 K11
  obtain ⟨E1, hE1⟩ : ∃ E1, ends (z0.map nz) = E1 := ⟨_, rfl⟩
  rw [hE1]
  have HE1 := Lib.hid hE1; clear hE1
  go_wp2_with fail
  refine (outerOver_any _ fa7 n7 fc7 _ _ _ _ _ _ _ _ (R2.out.kept0 K12.out) (R3.out.kept0 K12.out) (by omega)).mono ?_
  rintro e w13 ⟨T2, rfl, ho2, k13⟩
  have HO2 := Lib.hid ho2; clear ho2
  have HFb3 := Lib.hid (HFb2.out.kept k13 (by simp)); clear HFb2
  have HFc3 := Lib.hid (HFc2.out.kept k13 (by simp)); clear HFc2
  have K13 := Lib.hid (K12.out.trans k13); clear k13 K12
  go_wp2_with fail
  refine (outer_ends _ _ T2 _ _ _ HO2.out HFb3.out).mono ?_
  rw [HC7.out]
  rintro e w14 ⟨rfl, k14⟩
  have HFc4 := Lib.hid (HFc3.out.kept k14 (by simp)); clear HFc3
  have K14 := Lib.hid (K13.out.trans k14); clear k14 K13
  obtain ⟨E2, hE2⟩ : ∃ E2, ends (z0.map nz ++ z1.map nz) = E2 := ⟨_, rfl⟩
  rw [hE2]
  have HE2 : Hid (E1 = true → E2 = true) := Lib.hid (fun h => by rw [← hE2]; exact ends_more _ _ (by rw [HE1.out]; exact h))
  clear hE2
  go_wp2_with fail
  refine (outerOver_any _ fa10 n10 fc10 _ _ _ _ _ _ _ _ (R2.out.kept0 K14.out) (R3.out.kept0 K14.out) (by omega)).mono ?_
  rintro e w15 ⟨T3, rfl, ho3, k15⟩
  have HO3 := Lib.hid ho3; clear ho3
  have HFc5 := Lib.hid (HFc4.out.kept k15 (by simp)); clear HFc4
  have K15 := Lib.hid (K14.out.trans k15); clear k15 K14
  go_wp2_with fail
  refine (outer_ends _ _ T3 _ _ _ HO3.out HFc5.out).mono ?_
  rw [HC10.out, ends_led, HE1.out]
  rintro e w16 ⟨rfl, k16⟩
  have K16 := Lib.hid (K15.out.trans k16); clear k16 K15
  have hpair : (E1 = true ∧ E2 = true) ∨ E1 = false := by
    cases E1
    · exact Or.inr rfl
    · exact Or.inl ⟨rfl, HE2.out rfl⟩
  clear HE1 HE2
  rcases hpair with ⟨rfl, rfl⟩ | rfl
  · go_wp2_with fail
    go_ret
    exact ⟨rfl, K16.out.below (Nat.le_refl _) (by simp)⟩
  · cases E2
    all_goals
      go_wp2_with fail
      go_ret
      exact ⟨rfl, K16.out.below (Nat.le_refl _) (by simp)⟩
end fnGroupEndsAfterTailMonotoneAndSameLineCommentNeutral
end Go.Proofs.Ytddcpnhpjgeldaa
