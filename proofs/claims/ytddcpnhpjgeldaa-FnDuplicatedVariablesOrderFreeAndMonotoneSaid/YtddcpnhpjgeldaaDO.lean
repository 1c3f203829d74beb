/- The walk of the law FnDuplicatedVariablesOrderFreeAndMonotone: it returns true at every input, and writes nothing that was there. -/
import Derived.Test.YtddcpnhpjgeldaaDE
import Derived.Test.YtddcpnhpjgeldaaD4
namespace Go.Proofs.Ytddcpnhpjgeldaa
open Go.ChangeShapes Go.WideShapes Go.ChangeAt Go.RowKit

/-- Do two of these variables bind the same name? -/
def dupB (vs : List ByteArray) : Bool := decide (Maps.size (vset vs) < vs.length)
theorem dupB_iff (vs : List ByteArray) : dupB vs = true ↔ ¬ vs.Nodup := by unfold dupB; rw [decide_eq_true_iff, vset_lt]
theorem dupB_rev (vs : List ByteArray) : dupB vs.reverse = dupB vs := by
  rw [Bool.eq_iff_iff, dupB_iff, dupB_iff]
  unfold List.Nodup
  rw [List.pairwise_reverse]
  exact not_congr ⟨fun h => h.imp (fun h e => h e.symm), fun h => h.imp (fun h e => h e.symm)⟩
theorem dupB_more (vs : List ByteArray) (e : ByteArray) (h : dupB vs = true) : dupB (vs ++ [e]) = true := by
  rw [dupB_iff] at h ⊢
  intro hn
  exact h (List.pairwise_append.1 hn).1
theorem dupB_again (vs : List ByteArray) (e : ByteArray) (h : e ∈ vs) : dupB (vs ++ [e]) = true := by
  rw [dupB_iff]
  intro hn
  exact (List.pairwise_append.1 hn).2.2 e h e (by simp) rfl

theorem flatB (l : List ByteArray) : flatG encB l = l.map Value.string := by
  induction l with
  | nil => rfl
  | cons s l ih => simp [flatG, encB, ih]
theorem OwnR.setB {w : World} {base g n cap : Nat} {l : List ByteArray} (h : OwnR 9 1 encB w base (.slice (some ⟨g, 0, none⟩) n cap) l) (hl : l.length = n) (i : Nat) (s : ByteArray) :
    OwnR 9 1 encB (w.setCell ⟨g, i, none⟩ (.string s)) base (.slice (some ⟨g, 0, none⟩) n cap) (l.set i s) := by
  subst hl
  have := (World.ownsRow.stored h i (.string s)).1
  unfold OwnR
  rw [List.length_set, flatB, List.map_set, ← flatB]
  exact this
theorem OwnR.frozenB {w : World} {base g n cap : Nat} {l : List ByteArray} (h : OwnR 9 1 encB w base (.slice (some ⟨g, 0, none⟩) n cap) l) (hl : l.length = n) (j : Nat) : w.frozen? ⟨g, j, none⟩ = false := by
  subst hl
  exact World.ownsRow.frozenAt h j
theorem madeB (n : Nat) : (madeCells #[.string ByteArray.empty] (n * 1)).toList = flatG encB (List.replicate n ByteArray.empty) := by
  rw [flatB]
  apply List.ext_getElem?
  intro j
  simp only [madeCells, Array.toList_map, List.getElem?_map, Array.toList_range, List.map_replicate, List.getElem?_replicate, Nat.mul_one]
  by_cases hj : j < n
  · rw [List.getElem?_range hj, if_pos hj]
    simp [Nat.mod_one]
  · rw [List.getElem?_eq_none (by simp; omega), if_neg hj]; rfl

theorem dup_bl (w : World) (base : Nat) (v : Value) (vs : List ByteArray) (dd : List (List ZE)) (h : Els2 w base v vs dd) (hlen : vs.length ≤ 1048577) (hsz : ∀ s ∈ vs, s.size ≤ maxLen) :
    Calls Try.prog 16 #[v] w (Bl (dupB vs) w) := dup_zz w base v vs h.els hlen hsz

theorem rdr_nil (w : World) : RdR w none 0 0 [] := Rd.zero 1 RRow w none 0 (Nat.zero_le _)
theorem rdb_nil (w : World) : RdB w none 0 0 [] := Rd.zero 1 RB w none 0 (Nat.zero_le _)

namespace fnDuplicatedVariablesOrderFreeAndMonotone
set_option maxRecDepth 100000 in
set_option maxHeartbeats 8000000 in
theorem walk (a0 : Option Addr) (len0 cap0 : Nat) (z0 : List ByteArray) (a1 : ByteArray) (a2 : Int) (w : World) (w0 : IsStrs w a0 len0 cap0 z0) (w1 : a1.size ≤ maxLen) (_ : (Lit.int .i64 a2).wf = true) :
    Calls Try.prog 8 #[.slice a0 len0 cap0, .string a1, .int .i64 a2] w fun e w' => e = .returned (.bool true) ∧ Below w.heap.size w w' := by
  have hr0 := w0.rdb
  obtain ⟨le0, top0, -, -, -⟩ := w0.open
  unfold maxLen at top0
  have W0 := Lib.hid w0; clear w0
  have W1 := Lib.hid w1
  unfold maxLen at w1
  obtain ⟨vs, hvs⟩ : ∃ vs, z0.take len0 = vs := ⟨_, rfl⟩
  rw [hvs] at hr0
  clear hvs
  have hvl := hr0.len
  have HVL := Lib.hid hvl; clear hvl
  have HSZ := Lib.hid hr0.sz
  have R0 := Lib.hid hr0; clear hr0
  go_enter Try.func8, Try.ntmps8
  go_wp2_with fail
  refine (zzB_FnDuplicatedVariablesOrderFreeAndMonotone _ _ _ _ z0 _ _ W0.out W1.out).mono ?_
  rintro e w1 ⟨b, rfl, k1⟩
  have K1 := Lib.hid k1; clear k1
  cases b
  · go_wp2_with fail
    go_ret
    exact ⟨rfl, K1.out.below (Nat.le_refl _) (by simp)⟩
  by_cases g0 : 65536 < len0
  · go_wp2_with fail
    go_ret
    exact ⟨rfl, K1.out.below (Nat.le_refl _) (by simp)⟩
  by_cases g1 : 1048576 < a1.size
  · go_wp2_with fail
    go_ret
    exact ⟨rfl, K1.out.below (Nat.le_refl _) (by simp)⟩
  go_wp2_with fail
  refine (strBytes_any _ _ _ _ z0 (K1.out.strs W0.out (by simp))).mono ?_
  rintro e w2 ⟨n0, b0, rfl, k2⟩
  have K2 := Lib.hid (K1.out.trans k2); clear k2 K1
  cases b0
  · go_wp2_with fail
    go_ret
    exact ⟨rfl, K2.out.below (Nat.le_refl _) (by simp)⟩
  go_wp2_with fail
  all_goals first
    | (go_ret; exact ⟨rfl, K2.out.below (Nat.le_refl _) (by simp)⟩)
    | skip
  refine (elemsFrom_any _ _ _ _ vs _ _ _ [] _ _ _ [] (R0.out.kept0 K2.out) (rdb_nil _) (rdr_nil _) (by omega) (by simp)).mono ?_
  rintro e w3 ⟨⟨ta, tn, tc⟩, rfl, ht, hel, k3⟩
  dsimp only at ht
  subst ht
  have K3 := Lib.hid (K2.out.trans k3); clear k3 K2
  have HE := Lib.hid hel; clear hel
  unfold Trip.val at HE ⊢
  dsimp only at HE ⊢
  go_wp2_with fail
  refine (dup_bl _ _ _ _ _ HE.out (by rw [HVL.out]; omega) HSZ.out).mono ?_
  rintro e w4 ⟨rfl, k4⟩
  have K4 := Lib.hid (K3.out.trans k4); clear k4 K3 HE
  obtain ⟨D, hD⟩ : ∃ D, dupB vs = D := ⟨_, rfl⟩
  rw [hD]
  have HD := Lib.hid hD; clear hD
  obtain ⟨i0, hi, hz0, hz1, hz2⟩ := info_parts Try.infoStr
  have HI := Lib.hid hi; clear hi
  have HI0 := Lib.hid hz0; clear hz0
  have HI1 := Lib.hid hz1; clear hz1
  have HI2 := Lib.hid hz2; clear hz2
  go_wp2_with (at_make; refine wpList_make_full _ rfl _ _ 23 rfl w4.heap.size 9 i0 _ 1 Try.underlying23 HI.out HI0.out HI1.out _ _ _ _ tn rfl rfl rfl rfl ?b2 ?b3 (Nat.le_refl _) ?_)
  case b2 => rw [HI2.out]; omega
  case b3 => unfold maxLen; omega
  intro w5 hown hgrow
  have hk5 : Kept [] w4 w5 := (Kept.refl _ _).grown hgrow (by simp)
  obtain ⟨C, hC⟩ : ∃ C, w4.heap.size = C := ⟨_, rfl⟩
  rw [hC] at hown ⊢
  have HC := Lib.hid hC; clear hC
  have hrow : ∃ l, OwnR 9 1 encB w5 C (.slice (some ⟨C, 0, none⟩) tn tn) l ∧ l.length = tn ∧ ∀ s ∈ l, s.size ≤ maxLen := by
    refine ⟨List.replicate tn ByteArray.empty, ?_, by simp, fun s hs => ?_⟩
    · unfold OwnR
      rw [← madeB, List.length_replicate]
      simpa using hown
    · rw [(List.mem_replicate.1 hs).2]
      exact Nat.zero_le _
  have HR := Lib.hid hrow; clear hrow hown hgrow
  have K5 := Lib.hid hk5; clear hk5
  go_wp2_with fail
  go_loopw [12] (fun i wr => ∃ k : Nat, k ≤ tn ∧ i = .int .i64 k ∧ (∃ l, OwnR 9 1 encB wr C (.slice (some ⟨C, 0, none⟩) tn tn) l ∧ l.length = tn ∧ (∀ s ∈ l, s.size ≤ maxLen) ∧ ∀ j, j < k → l[j]? = vs.reverse[j]?) ∧ Kept [] w4 wr) (fun i _ => tn - (intOf i).toNat)
  case atStart =>
    obtain ⟨l, h1, h2, h3⟩ := HR.out
    exact ⟨0, Nat.zero_le _, rfl, ⟨l, h1, h2, h3, fun j hj => by omega⟩, K5.out⟩
  case round =>
    clear HR K5
    obtain ⟨k, hk, rfl, ⟨l, hl1, hl2, hl3, hl4⟩, hb⟩ := hrel
    have HB := Lib.hid hb; clear hb
    have HL1 := Lib.hid hl1; clear hl1
    have HL2 := Lib.hid hl2; clear hl2
    have HL3 := Lib.hid hl3; clear hl3
    have HL4 := Lib.hid hl4; clear hl4
    by_cases hlt : k < tn
    · obtain ⟨q, hq⟩ : ∃ q : Nat, (tn : Int) - 1 - k = q := ⟨tn - 1 - k, by omega⟩
      have hqn : q < tn := by omega
      obtain ⟨b, o, s, hs, rfl, hbl, c0⟩ := (R0.out.kept0 (K4.out.trans HB.out)).row q hqn
      have e1 : wrap64 ((tn : Int) - 1) = (tn : Int) - 1 := by unfold wrap64; omega
      have e2 : IntKind.i64.wrap ((tn : Int) - 1) = (tn : Int) - 1 := by rw [IntKind.wrap_i64]; omega
      have e3 : wrap64 ((tn : Int) - 1 - k) = q := by unfold wrap64; omega
      have e4 : IntKind.i64.wrap ((tn : Int) - 1 - k) = q := by rw [IntKind.wrap_i64]; omega
      have hx : k < l.length := by rw [HL2.out]; exact hlt
      have d0 := HL1.out.cell encB_len k hx 0 (by omega)
      rw [Nat.mul_one, Nat.add_zero] at d0
      have d1 : wr.cell? ⟨C, k, none⟩ = some (.string l[k]) := d0
      clear d0
      obtain ⟨u, hu⟩ : ∃ u, l[k] = u := ⟨_, rfl⟩
      rw [hu] at d1
      clear hu
      have fq := HL1.out.frozenB HL2.out k
      have hnew : ∃ l', OwnR 9 1 encB (wr.setCell ⟨C, k, none⟩ (.string s)) C (.slice (some ⟨C, 0, none⟩) tn tn) l' ∧ l'.length = tn ∧ (∀ s ∈ l', s.size ≤ maxLen) ∧ ∀ j, j < k + 1 → l'[j]? = vs.reverse[j]? := by
        refine ⟨l.set k s, HL1.out.setB HL2.out k s, by rw [List.length_set]; exact HL2.out, fun x hx => ?_, fun j hj => ?_⟩
        · rcases List.mem_or_eq_of_mem_set hx with h | rfl
          · exact HL3.out x h
          · exact HSZ.out _ (List.mem_of_getElem? hs)
        · by_cases hjk : j < k
          · rw [List.getElem?_set_ne (by omega)]
            exact HL4.out j hjk
          · obtain rfl : j = k := by omega
            rw [List.getElem?_set_self hx, List.getElem?_reverse (by rw [HVL.out]; exact hlt), HVL.out, ← hs]
            congr 1
            omega
      have HNEW := Lib.hid hnew; clear hnew hs hx
      have hks : Kept [] w4 (wr.setCell ⟨C, k, none⟩ (.string s)) := HB.out.setCell (Or.inr (by rw [HC.out]; exact Nat.le_refl _)) _
      have HKS := Lib.hid hks; clear hks
      have i1 : (0 : Int) ≤ (q : Int) := by omega
      have i2 : (q : Int) < (tn : Int) := by omega
      have i3 : (0 : Int) ≤ (k : Int) := by omega
      have i4 : (k : Int) < (tn : Int) := by omega
      go_wp2_with fail
      exact ⟨⟨k + 1, by omega, by go_num, HNEW.out, HKS.out⟩, by simp [intOf]; omega⟩
    · obtain rfl : k = tn := by omega
      have hlr : l = vs.reverse := by
        apply List.ext_getElem?
        intro j
        by_cases hj : j < k
        · exact HL4.out j hj
        · rw [List.getElem?_eq_none (by rw [HL2.out]; omega), List.getElem?_eq_none (by rw [List.length_reverse, HVL.out]; omega)]
      have hrd := HL1.out.rdb HL3.out
      rw [hlr] at hrd
      have HRD := Lib.hid hrd; clear hrd hlr HL1 HL2 HL3 HL4
      go_wp2_with fail
      refine (elemsFrom_any _ _ _ _ vs.reverse _ _ _ [] _ _ _ [] HRD.out (rdb_nil _) (rdr_nil _) (by omega) (by simp)).mono ?_
      rintro e w6 ⟨⟨ra, rn, rc⟩, rfl, ht, hel, k6⟩
      dsimp only at ht
      subst ht
      have K6 := Lib.hid ((K4.out.trans HB.out).trans k6); clear k6 K4 HB HRD
      have HE := Lib.hid hel; clear hel
      unfold Trip.val at HE ⊢
      dsimp only at HE ⊢
      go_wp2_with fail
      refine (dup_bl _ _ _ _ _ HE.out (by rw [List.length_reverse, HVL.out]; omega) (fun s hs => HSZ.out s (List.mem_reverse.1 hs))).mono ?_
      rw [dupB_rev, HD.out]
      rintro e w7 ⟨rfl, k7⟩
      have K7 := Lib.hid (K6.out.trans k7); clear k7 K6 HE
      clear HC
      go_wp2_with (at_make; refine wpList_make_own _ rfl _ _ 23 rfl w7.heap.size 9 i0 _ 1 Try.underlying23 HI.out HI0.out HI1.out _ _ _ (rn + 1) rfl rfl (by simp) ?b2 ?b3 (Nat.le_refl _) ?_)
      case b2 => rw [HI2.out]; omega
      case b3 => unfold maxLen; omega
      intro w8 hown hgrow
      have hf : OwnR 9 1 encB w8 w7.heap.size (.slice (some ⟨w7.heap.size, 0, none⟩) 0 (rn + 1)) [] := hown
      have hk8 : Kept [] w7 w8 := (Kept.refl _ _).grown hgrow (by simp)
      clear hown hgrow
      obtain ⟨G, hG⟩ : ∃ G, w7.heap.size = G := ⟨_, rfl⟩
      rw [hG] at hf ⊢
      have HG := Lib.hid hG; clear hG
      have HF := Lib.hid hf; clear hf
      have K8 := Lib.hid hk8; clear hk8
      go_wp2_with fail
      go_loopw [14, 15] (fun v i wr => ∃ m : Nat, m ≤ rn ∧ i = .int .i64 m ∧ OwnR 9 1 encB wr G v (vs.take m) ∧ Kept [] w7 wr) (fun _ i _ => rn - (intOf i).toNat)
      case atStart => exact ⟨0, Nat.zero_le _, rfl, HF.out, K8.out⟩
      case round =>
        clear HF K8
        obtain ⟨m, hm, rfl, hf, hb⟩ := hrel
        have HB := Lib.hid hb; clear hb
        obtain ⟨va, vc, hv, -⟩ := hf.slice
        have hml : (vs.take m).length = m := by rw [List.length_take, HVL.out]; omega
        rw [hml] at hv
        subst hv
        have HML := Lib.hid hml; clear hml
        have HF := Lib.hid hf; clear hf
        have hbw : G ≤ wr.heap.size := by rw [← HG.out]; exact HB.out.size
        have HBW := Lib.hid hbw; clear hbw
        have push : ∀ (s : ByteArray) (w4 : World), Kept (Value.slice va m vc).ownBlock.toList (wr.alloc (.cells #[.string s] 9)) w4 → Kept [] w7 w4 := by
          intro s w4 hk4
          exact (HB.out.alloc _).then hk4 (fun g hg => by
            simp only [Option.mem_toList] at hg
            exact Or.inr (by rw [HG.out]; exact (OwnR.blk HF.out hg).1))
        have PUSH := Lib.hid push; clear push
        have HO : Hid (∀ o', OwnR 9 1 encB (wr.alloc o') G (.slice va m vc) (vs.take m)) := Lib.hid (fun o' => HF.out.kept0 ((Kept.refl [] wr).alloc o'))
        have HBL : Hid (∀ o', G ≤ (wr.alloc o').heap.size) := Lib.hid (fun o' => by
          have h4 : (wr.alloc o').heap.size = wr.heap.size + 1 := by simp
          have := HBW.out
          omega)
        have H3 : Hid ((vs.take m).length + 1 ≤ maxLen) := Lib.hid (by rw [HML.out]; unfold maxLen; omega)
        have H4 : Hid (((vs.take m).length + 1) * 16 ≤ 140737488355328) := Lib.hid (by rw [HML.out]; omega)
        by_cases hlt : m < rn
        · obtain ⟨b, o, s, hs, rfl, hbl, c0⟩ := (R0.out.kept0 (K7.out.trans HB.out)).row m hlt
          have hsn : vs.take (m + 1) = vs.take m ++ [s] := take_snoc hs
          have HSN := Lib.hid hsn; clear hsn hs
          have i1 : (0 : Int) ≤ (m : Int) := by omega
          have i2 : (m : Int) < (rn : Int) := by omega
          go_wp2_with (first
            | (at_builtin; refine wpList_push (T := 9) (c := 1) (enc := encB) rfl _ _ 23 rfl G i0 _ 16 Try.underlying23 HI.out HI0.out HI1.out HI2.out rfl (by decide) encB_len encB_one (.slice va m vc) (vs.take m) rfl (HO.out _) wr.heap.size s 1 _ rfl (heap_alloc_new wr _) rfl H3.out H4.out (HBL.out _) ?_)
            | fail)
          intro v' w4 hown4 hk4
          rw [← HSN.out] at hown4
          have KN := Lib.hid (PUSH.out s w4 hk4); clear hk4
          have HN := Lib.hid hown4; clear hown4
          go_wp2_with fail
          exact ⟨⟨m + 1, by omega, by go_num, HN.out, KN.out⟩, by simp [intOf]; omega⟩
        · obtain rfl : m = rn := by omega
          have hvt : vs.take m = vs := by rw [← HVL.out, List.take_length]
          rw [hvt] at HF HO H3 H4
          clear hvt HML
          have hml := HVL.out
          go_wp2_with (first
            | (at_builtin; refine wpList_push (T := 9) (c := 1) (enc := encB) rfl _ _ 23 rfl G i0 _ 16 Try.underlying23 HI.out HI0.out HI1.out HI2.out rfl (by decide) encB_len encB_one (.slice va m vc) vs rfl (HO.out _) wr.heap.size a1 1 _ rfl (heap_alloc_new wr _) rfl H3.out H4.out (HBL.out _) ?_)
            | fail)
          intro v' w9 hown9 hk9
          have K9 := Lib.hid (K7.out.trans (PUSH.out a1 w9 hk9)); clear hk9
          obtain ⟨xa, xc, hv, -⟩ := hown9.slice
          rw [List.length_append, HVL.out, List.length_singleton] at hv
          subst hv
          have hszn : ∀ s ∈ vs ++ [a1], s.size ≤ maxLen := by
            intro s hs
            rcases List.mem_append.1 hs with h | h
            · exact HSZ.out s h
            · simp at h; subst h; exact W1.out
          have HSN := Lib.hid hszn; clear hszn
          have HRD := Lib.hid (hown9.rdb HSN.out); clear hown9 PUSH HO HBL H3 H4 HF HB
          go_wp2_with fail
          refine (elemsFrom_any _ _ _ _ (vs ++ [a1]) _ _ _ [] _ _ _ [] HRD.out (rdb_nil _) (rdr_nil _) (by omega) (by simp)).mono ?_
          rintro e w10 ⟨⟨ya, yn, yc⟩, rfl, ht, hel, k10⟩
          dsimp only at ht
          subst ht
          have K10 := Lib.hid (K9.out.trans k10); clear k10 K9 HRD
          have HE := Lib.hid hel; clear hel
          unfold Trip.val at HE ⊢
          dsimp only at HE ⊢
          go_wp2_with fail
          refine (dup_bl _ _ _ _ _ HE.out (by rw [List.length_append, HVL.out, List.length_singleton]; omega) HSN.out).mono ?_
          rintro e w11 ⟨rfl, k11⟩
          have K11 := Lib.hid (K10.out.trans k11); clear k11 K10 HE HSN
          obtain ⟨D2, hD2⟩ : ∃ D2, dupB (vs ++ [a1]) = D2 := ⟨_, rfl⟩
          have hdd : D = true → D2 = true := fun h => by rw [← hD2]; exact dupB_more vs a1 (by rw [HD.out]; exact h)
          rw [hD2]
          clear hD2
          have hpair : (D = true ∧ D2 = true) ∨ D = false := by
            cases D
            · exact Or.inr rfl
            · exact Or.inl ⟨rfl, hdd rfl⟩
          clear hdd HD
          rcases hpair with ⟨rfl, rfl⟩ | rfl
          all_goals
            by_cases hm0 : m = 0
            · subst hm0
              go_wp2_with fail
              go_ret
              exact ⟨rfl, K11.out.below (Nat.le_refl _) (by simp)⟩
            skip
            obtain ⟨T, hT⟩ : ∃ T, a2.tmod (m : Int) = T := ⟨_, rfl⟩
            have hTa : T.natAbs < m := by
              rw [← hT, Int.natAbs_tmod]
              exact Nat.mod_lt _ (by omega)
            by_cases hT0 : T < 0
            · obtain ⟨q, hq⟩ : ∃ q : Nat, T + (m : Int) = q := ⟨(T + m).toNat, by omega⟩
              have hqm : q < m := by omega
              have e1 : wrap64 (T + (m : Int)) = q := by unfold wrap64; omega
              have e2 : IntKind.i64.wrap (T + (m : Int)) = q := by rw [IntKind.wrap_i64]; omega
              go_wp2_with (at_make; refine wpList_make_own _ rfl _ _ 23 rfl w11.heap.size 9 i0 _ 1 Try.underlying23 HI.out HI0.out HI1.out _ _ _ (m + 1) rfl rfl (by simp) ?b2 ?b3 (Nat.le_refl _) ?_)
              case b2 => rw [HI2.out]; omega
              case b3 => unfold maxLen; omega
              intro w12 hown hgrow
              have hf : OwnR 9 1 encB w12 w11.heap.size (.slice (some ⟨w11.heap.size, 0, none⟩) 0 (m + 1)) [] := hown
              have hk8 : Kept [] w11 w12 := (Kept.refl _ _).grown hgrow (by simp)
              clear hown hgrow
              obtain ⟨G, hG⟩ : ∃ G, w11.heap.size = G := ⟨_, rfl⟩
              rw [hG] at hf ⊢
              have HG := Lib.hid hG; clear hG
              have HF := Lib.hid hf; clear hf
              have K8 := Lib.hid hk8; clear hk8
              go_wp2_with fail
              go_loopw [18, 19] (fun v i wr => ∃ j : Nat, j ≤ m ∧ i = .int .i64 j ∧ OwnR 9 1 encB wr G v (vs.take j) ∧ Kept [] w11 wr) (fun _ i _ => m - (intOf i).toNat)
              case atStart => exact ⟨0, Nat.zero_le _, rfl, HF.out, K8.out⟩
              case round =>
                clear HF K8
                obtain ⟨j, hj, rfl, hf, hb⟩ := hrel
                have HB := Lib.hid hb; clear hb
                obtain ⟨va, vc, hv, -⟩ := hf.slice
                have hml2 : (vs.take j).length = j := by rw [List.length_take, HVL.out]; omega
                rw [hml2] at hv
                subst hv
                have HML := Lib.hid hml2; clear hml2
                have HF := Lib.hid hf; clear hf
                have hbw : G ≤ wr.heap.size := by rw [← HG.out]; exact HB.out.size
                have HBW := Lib.hid hbw; clear hbw
                have push : ∀ (s : ByteArray) (w4 : World), Kept (Value.slice va j vc).ownBlock.toList (wr.alloc (.cells #[.string s] 9)) w4 → Kept [] w11 w4 := by
                  intro s w4 hk4
                  exact (HB.out.alloc _).then hk4 (fun g hg => by
                    simp only [Option.mem_toList] at hg
                    exact Or.inr (by rw [HG.out]; exact (OwnR.blk HF.out hg).1))
                have PUSH := Lib.hid push; clear push
                have HO : Hid (∀ o', OwnR 9 1 encB (wr.alloc o') G (.slice va j vc) (vs.take j)) := Lib.hid (fun o' => HF.out.kept0 ((Kept.refl [] wr).alloc o'))
                have HBL : Hid (∀ o', G ≤ (wr.alloc o').heap.size) := Lib.hid (fun o' => by
                  have h4 : (wr.alloc o').heap.size = wr.heap.size + 1 := by simp
                  have := HBW.out
                  omega)
                have H3 : Hid ((vs.take j).length + 1 ≤ maxLen) := Lib.hid (by rw [HML.out]; unfold maxLen; omega)
                have H4 : Hid (((vs.take j).length + 1) * 16 ≤ 140737488355328) := Lib.hid (by rw [HML.out]; omega)
                by_cases hlt : j < m
                · obtain ⟨b, o, s, hs, rfl, hbl, c0⟩ := (R0.out.kept0 (K11.out.trans HB.out)).row j hlt
                  have hsn : vs.take (j + 1) = vs.take j ++ [s] := take_snoc hs
                  have HSN := Lib.hid hsn; clear hsn hs
                  have i1 : (0 : Int) ≤ (j : Int) := by omega
                  have i2 : (j : Int) < (m : Int) := by omega
                  go_wp2_with (first
                    | (at_builtin; refine wpList_push (T := 9) (c := 1) (enc := encB) rfl _ _ 23 rfl G i0 _ 16 Try.underlying23 HI.out HI0.out HI1.out HI2.out rfl (by decide) encB_len encB_one (.slice va j vc) (vs.take j) rfl (HO.out _) wr.heap.size s 1 _ rfl (heap_alloc_new wr _) rfl H3.out H4.out (HBL.out _) ?_)
                    | fail)
                  intro v' w4 hown4 hk4
                  rw [← HSN.out] at hown4
                  have KN := Lib.hid (PUSH.out s w4 hk4); clear hk4
                  have HN := Lib.hid hown4; clear hown4
                  go_wp2_with fail
                  exact ⟨⟨j + 1, by omega, by go_num, HN.out, KN.out⟩, by simp [intOf]; omega⟩
                · obtain rfl : j = m := by omega
                  have hvt : vs.take j = vs := by rw [← HVL.out, List.take_length]
                  rw [hvt] at HF HO H3 H4
                  clear hvt HML
                  obtain ⟨b, o, s, hs, rfl, hbl, c0⟩ := (R0.out.kept0 (K11.out.trans HB.out)).row q hqm
                  have HMS := Lib.hid (List.mem_of_getElem? hs); clear hs
                  have i1 : (0 : Int) ≤ (q : Int) := by omega
                  have i2 : (q : Int) < (j : Int) := by omega
                  go_wp2_with (first
                    | (at_builtin; refine wpList_push (T := 9) (c := 1) (enc := encB) rfl _ _ 23 rfl G i0 _ 16 Try.underlying23 HI.out HI0.out HI1.out HI2.out rfl (by decide) encB_len encB_one (.slice va j vc) vs rfl (HO.out _) wr.heap.size s 1 _ rfl (heap_alloc_new wr _) rfl H3.out H4.out (HBL.out _) ?_)
                    | fail)
                  intro v' w13 hown9 hk9
                  have K13 := Lib.hid (K11.out.trans (PUSH.out s w13 hk9)); clear hk9
                  obtain ⟨xa, xc, hv, -⟩ := hown9.slice
                  rw [List.length_append, HVL.out, List.length_singleton] at hv
                  subst hv
                  have hszn : ∀ x ∈ vs ++ [s], x.size ≤ maxLen := by
                    intro x hx
                    rcases List.mem_append.1 hx with h | h
                    · exact HSZ.out x h
                    · simp at h; subst h; exact HSZ.out _ HMS.out
                  have HSN := Lib.hid hszn; clear hszn
                  have HRD := Lib.hid (hown9.rdb HSN.out); clear hown9 PUSH HO HBL H3 H4 HF HB
                  go_wp2_with fail
                  refine (elemsFrom_any _ _ _ _ (vs ++ [s]) _ _ _ [] _ _ _ [] HRD.out (rdb_nil _) (rdr_nil _) (by omega) (by simp)).mono ?_
                  rintro e w14 ⟨⟨ya, yn, yc⟩, rfl, ht, hel, k10⟩
                  dsimp only at ht
                  subst ht
                  have K14 := Lib.hid (K13.out.trans k10); clear k10 K13 HRD
                  have HE := Lib.hid hel; clear hel
                  unfold Trip.val at HE ⊢
                  dsimp only at HE ⊢
                  go_wp2_with fail
                  refine (dup_bl _ _ _ _ _ HE.out (by rw [List.length_append, HVL.out, List.length_singleton]; omega) HSN.out).mono ?_
                  rw [dupB_again vs s HMS.out]
                  rintro e w15 ⟨rfl, k11⟩
                  have K15 := Lib.hid (K14.out.trans k11); clear k11 K14 HE HSN
                  go_wp2_with fail
                  go_ret
                  exact ⟨rfl, K15.out.below (Nat.le_refl _) (by simp)⟩
            · obtain ⟨q, rfl⟩ : ∃ q : Nat, T = q := ⟨T.toNat, by omega⟩
              have hqm : q < m := by omega
              go_wp2_with (at_make; refine wpList_make_own _ rfl _ _ 23 rfl w11.heap.size 9 i0 _ 1 Try.underlying23 HI.out HI0.out HI1.out _ _ _ (m + 1) rfl rfl (by simp) ?b2 ?b3 (Nat.le_refl _) ?_)
              case b2 => rw [HI2.out]; omega
              case b3 => unfold maxLen; omega
              intro w12 hown hgrow
              have hf : OwnR 9 1 encB w12 w11.heap.size (.slice (some ⟨w11.heap.size, 0, none⟩) 0 (m + 1)) [] := hown
              have hk8 : Kept [] w11 w12 := (Kept.refl _ _).grown hgrow (by simp)
              clear hown hgrow
              obtain ⟨G, hG⟩ : ∃ G, w11.heap.size = G := ⟨_, rfl⟩
              rw [hG] at hf ⊢
              have HG := Lib.hid hG; clear hG
              have HF := Lib.hid hf; clear hf
              have K8 := Lib.hid hk8; clear hk8
              go_wp2_with fail
              go_loopw [18, 19] (fun v i wr => ∃ j : Nat, j ≤ m ∧ i = .int .i64 j ∧ OwnR 9 1 encB wr G v (vs.take j) ∧ Kept [] w11 wr) (fun _ i _ => m - (intOf i).toNat)
              case atStart => exact ⟨0, Nat.zero_le _, rfl, HF.out, K8.out⟩
              case round =>
                clear HF K8
                obtain ⟨j, hj, rfl, hf, hb⟩ := hrel
                have HB := Lib.hid hb; clear hb
                obtain ⟨va, vc, hv, -⟩ := hf.slice
                have hml2 : (vs.take j).length = j := by rw [List.length_take, HVL.out]; omega
                rw [hml2] at hv
                subst hv
                have HML := Lib.hid hml2; clear hml2
                have HF := Lib.hid hf; clear hf
                have hbw : G ≤ wr.heap.size := by rw [← HG.out]; exact HB.out.size
                have HBW := Lib.hid hbw; clear hbw
                have push : ∀ (s : ByteArray) (w4 : World), Kept (Value.slice va j vc).ownBlock.toList (wr.alloc (.cells #[.string s] 9)) w4 → Kept [] w11 w4 := by
                  intro s w4 hk4
                  exact (HB.out.alloc _).then hk4 (fun g hg => by
                    simp only [Option.mem_toList] at hg
                    exact Or.inr (by rw [HG.out]; exact (OwnR.blk HF.out hg).1))
                have PUSH := Lib.hid push; clear push
                have HO : Hid (∀ o', OwnR 9 1 encB (wr.alloc o') G (.slice va j vc) (vs.take j)) := Lib.hid (fun o' => HF.out.kept0 ((Kept.refl [] wr).alloc o'))
                have HBL : Hid (∀ o', G ≤ (wr.alloc o').heap.size) := Lib.hid (fun o' => by
                  have h4 : (wr.alloc o').heap.size = wr.heap.size + 1 := by simp
                  have := HBW.out
                  omega)
                have H3 : Hid ((vs.take j).length + 1 ≤ maxLen) := Lib.hid (by rw [HML.out]; unfold maxLen; omega)
                have H4 : Hid (((vs.take j).length + 1) * 16 ≤ 140737488355328) := Lib.hid (by rw [HML.out]; omega)
                by_cases hlt : j < m
                · obtain ⟨b, o, s, hs, rfl, hbl, c0⟩ := (R0.out.kept0 (K11.out.trans HB.out)).row j hlt
                  have hsn : vs.take (j + 1) = vs.take j ++ [s] := take_snoc hs
                  have HSN := Lib.hid hsn; clear hsn hs
                  have i1 : (0 : Int) ≤ (j : Int) := by omega
                  have i2 : (j : Int) < (m : Int) := by omega
                  go_wp2_with (first
                    | (at_builtin; refine wpList_push (T := 9) (c := 1) (enc := encB) rfl _ _ 23 rfl G i0 _ 16 Try.underlying23 HI.out HI0.out HI1.out HI2.out rfl (by decide) encB_len encB_one (.slice va j vc) (vs.take j) rfl (HO.out _) wr.heap.size s 1 _ rfl (heap_alloc_new wr _) rfl H3.out H4.out (HBL.out _) ?_)
                    | fail)
                  intro v' w4 hown4 hk4
                  rw [← HSN.out] at hown4
                  have KN := Lib.hid (PUSH.out s w4 hk4); clear hk4
                  have HN := Lib.hid hown4; clear hown4
                  go_wp2_with fail
                  exact ⟨⟨j + 1, by omega, by go_num, HN.out, KN.out⟩, by simp [intOf]; omega⟩
                · obtain rfl : j = m := by omega
                  have hvt : vs.take j = vs := by rw [← HVL.out, List.take_length]
                  rw [hvt] at HF HO H3 H4
                  clear hvt HML
                  obtain ⟨b, o, s, hs, rfl, hbl, c0⟩ := (R0.out.kept0 (K11.out.trans HB.out)).row q hqm
                  have HMS := Lib.hid (List.mem_of_getElem? hs); clear hs
                  have i1 : (0 : Int) ≤ (q : Int) := by omega
                  have i2 : (q : Int) < (j : Int) := by omega
                  go_wp2_with (first
                    | (at_builtin; refine wpList_push (T := 9) (c := 1) (enc := encB) rfl _ _ 23 rfl G i0 _ 16 Try.underlying23 HI.out HI0.out HI1.out HI2.out rfl (by decide) encB_len encB_one (.slice va j vc) vs rfl (HO.out _) wr.heap.size s 1 _ rfl (heap_alloc_new wr _) rfl H3.out H4.out (HBL.out _) ?_)
                    | fail)
                  intro v' w13 hown9 hk9
                  have K13 := Lib.hid (K11.out.trans (PUSH.out s w13 hk9)); clear hk9
                  obtain ⟨xa, xc, hv, -⟩ := hown9.slice
                  rw [List.length_append, HVL.out, List.length_singleton] at hv
                  subst hv
                  have hszn : ∀ x ∈ vs ++ [s], x.size ≤ maxLen := by
                    intro x hx
                    rcases List.mem_append.1 hx with h | h
                    · exact HSZ.out x h
                    · simp at h; subst h; exact HSZ.out _ HMS.out
                  have HSN := Lib.hid hszn; clear hszn
                  have HRD := Lib.hid (hown9.rdb HSN.out); clear hown9 PUSH HO HBL H3 H4 HF HB
                  go_wp2_with fail
                  refine (elemsFrom_any _ _ _ _ (vs ++ [s]) _ _ _ [] _ _ _ [] HRD.out (rdb_nil _) (rdr_nil _) (by omega) (by simp)).mono ?_
                  rintro e w14 ⟨⟨ya, yn, yc⟩, rfl, ht, hel, k10⟩
                  dsimp only at ht
                  subst ht
                  have K14 := Lib.hid (K13.out.trans k10); clear k10 K13 HRD
                  have HE := Lib.hid hel; clear hel
                  unfold Trip.val at HE ⊢
                  dsimp only at HE ⊢
                  go_wp2_with fail
                  refine (dup_bl _ _ _ _ _ HE.out (by rw [List.length_append, HVL.out, List.length_singleton]; omega) HSN.out).mono ?_
                  rw [dupB_again vs s HMS.out]
                  rintro e w15 ⟨rfl, k11⟩
                  have K15 := Lib.hid (K14.out.trans k11); clear k11 K14 HE HSN
                  go_wp2_with fail
                  go_ret
                  exact ⟨rfl, K15.out.below (Nat.le_refl _) (by simp)⟩
end fnDuplicatedVariablesOrderFreeAndMonotone
end Go.Proofs.Ytddcpnhpjgeldaa
