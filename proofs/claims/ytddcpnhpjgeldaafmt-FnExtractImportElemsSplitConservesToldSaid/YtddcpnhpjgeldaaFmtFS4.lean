/- The contract of n008_135's cleanModelB2. -/
import Derived.Test.YtddcpnhpjgeldaaFmtFS2
namespace Go.Proofs.YtddcpnhpjgeldaaFmt
attribute [local go_sem ↓] Go.wp_at_zero Go.wp_at_succ
open Go.ChangeShapes Go.WideShapes Go.ChangeAt Go.RowKit

set_option maxRecDepth 100000 in
set_option maxHeartbeats 8000000 in
theorem cleanModel_any (w : World) (base : Nat) (v : Value) (l : List FE) (h : Fod w base v l) (hlen : l.length ≤ 65536) :
    Calls Tryf.prog 21 #[v] w fun e w' => ∃ v' l', e = .returned v' ∧ Fod w' w.heap.size v' l' ∧ codes l' = ens (codes l) ∧ Kept [] w w' := by
  obtain ⟨a, cap, rfl, hlc, hcm, ha⟩ := h.slice
  unfold maxLen at hcm
  obtain ⟨n, hn⟩ : ∃ n, l.length = n := ⟨_, rfl⟩
  have H := Lib.hid h; clear h
  have HA := Lib.hid ha; clear ha
  rw [hn] at hlc hlen ⊢
  have HN := Lib.hid hn; clear hn
  obtain ⟨i0, hi, hz0, hz1, hz2⟩ := info_parts Tryf.infoFE
  have HI := Lib.hid hi; clear hi
  have HI0 := Lib.hid hz0; clear hz0
  have HI1 := Lib.hid hz1; clear hz1
  have HI2 := Lib.hid hz2; clear hz2
  go_enter Tryf.func21, Tryf.ntmps21
  go_wp2_with (at_make; refine wpList_make_own _ rfl _ _ 33 rfl w.heap.size 56 i0 _ 4 Tryf.underlying33 HI.out HI0.out HI1.out _ _ _ (n + 1) (by first | rfl | (show Value.int .i64 _ = Value.int .i64 _; go_num)) (by first | rfl | (show Value.int .i64 _ = Value.int .i64 _; go_num)) rfl ?b2 ?b3 (Nat.le_refl _) ?_)
  case b2 => rw [HI2.out]; omega
  case b3 => unfold maxLen; omega
  intro w1 hown hgrow
  have hf : Fod w1 w.heap.size (.slice (some ⟨w.heap.size, 0, none⟩) 0 (n + 1)) [] := hown
  have hb : Kept [] w w1 := (Kept.refl _ _).grown hgrow (by simp)
  clear hown hgrow
  obtain ⟨B, hB⟩ : ∃ B, w.heap.size = B := ⟨_, rfl⟩
  rw [hB] at hf ⊢
  have HBB := Lib.hid hB; clear hB
  have HF := Lib.hid hf; clear hf
  have HB := Lib.hid hb; clear hb
  go_wp2_with fail
  go_loopw [3, 4] (fun v i wr => ∃ m : Nat, m ≤ n ∧ i = .int .i64 m ∧ Hid (∃ l', Fod wr B v l' ∧ codes l' = (codes l).take m) ∧ Kept [] w wr) (fun _ i _ => n - (intOf i).toNat)
  case atStart => exact ⟨0, Nat.zero_le _, rfl, Lib.hid ⟨[], HF.out, rfl⟩, HB.out⟩
  case round =>
    clear HF HB
    obtain ⟨m, hm, rfl, HFL, hb⟩ := hrel
    have HB := Lib.hid hb; clear hb
    obtain ⟨l', hf, hl⟩ := HFL.out
    clear HFL
    have hln : l'.length = m := by
      have := congrArg List.length hl
      rw [List.length_take, codes, codes, List.length_map, List.length_map, HN.out] at this
      omega
    obtain ⟨va, vc, rfl, -⟩ := hf.slice
    rw [hln] at hf ⊢
    have HLN := Lib.hid hln; clear hln
    have HF := Lib.hid hf; clear hf
    have HL := Lib.hid hl; clear hl
    obtain ⟨wo, rfl⟩ : ∃ wo : World, wo = wr := ⟨_, rfl⟩
    have HBL : Hid (∀ o, B ≤ (wo.alloc o).heap.size) := Lib.hid (fun o => by have := HB.out.size; have := HBB.out; simp; omega)
    have HO : Hid (∀ o, OwnR 56 4 FE.cells (wo.alloc o) B (.slice va m vc) l') := Lib.hid (fun o => (HF.out.kept ((Kept.refl [] wo).alloc o) (by simp)).own)
    have HBX : Hid (∀ cs, (wo.alloc (.cells cs 56)).heap[wo.heap.size]? = some (.cells cs 56 (0, 0))) := Lib.hid (fun cs => heap_alloc_new wo _)
    have H3 : Hid (l'.length + 1 ≤ maxLen) := Lib.hid (by rw [HLN.out]; unfold maxLen; omega)
    have H4 : Hid ((l'.length + 1) * 48 ≤ 140737488355328) := Lib.hid (by rw [HLN.out]; omega)
    have HKG : Hid (∀ o w4, Kept (Value.slice va m vc).ownBlock.toList (wo.alloc o) w4 → Kept [] w w4) := Lib.hid (fun o w4 k => (HB.out.alloc o).then k (fun x hm => Or.inr (by
      simp only [Option.mem_toList] at hm
      have := (HF.out.blk hm).1
      have := HBB.out
      omega)))
    by_cases hlt : m < n
    · obtain ⟨g, rfl, -, -⟩ := HA.out m (by rw [HN.out]; exact hlt)
      obtain ⟨e, he, c0, c1, c2, c3⟩ := (H.out.kept HB.out (by simp)).cells m (by rw [HN.out]; exact hlt)
      have HTK : Hid (∀ ca cc, codes (l' ++ [⟨ca, e.cl, cc, e.k, e.b, e.i⟩]) = (codes l).take (m + 1)) := Lib.hid (fun ca cc => by
        rw [take_snoc (show (codes l)[m]? = some e.snap by rw [codes, List.getElem?_map, he]; rfl), ← HL.out]
        simp [codes, FE.snap])
      clear he
      obtain ⟨ea, el, ec, ek, eb, ei⟩ := e
      dsimp only at c0 c1 c2 c3 HTK
      go_wp2_with (first
        | (at_builtin; refine wpList_push (T := 56) (c := 4) (enc := FE.cells) rfl _ _ 33 rfl B i0 _ 48 Tryf.underlying33 HI.out HI0.out HI1.out HI2.out rfl (by decide) FE.cells_len FE.one (.slice va m vc) l' rfl (HO.out _) wo.heap.size ⟨ea, el, ec, ek, eb, ei⟩ 1 _ rfl (HBX.out _) rfl H3.out H4.out (HBL.out _) ?_)
        | fail)
      intro v' w4 hown4 hk4
      have HK4 := Lib.hid (HKG.out _ _ hk4); clear hk4
      have HN4 := Lib.hid (⟨_, hown4.fod, HTK.out _ _⟩ : ∃ l', Fod w4 B v' l' ∧ codes l' = (codes l).take (m + 1)); clear hown4
      go_wp2_with fail
      exact ⟨⟨m + 1, by omega, by go_num, HN4.out, HK4.out⟩, by simp [intOf]; omega⟩
    · obtain rfl : m = n := by omega
      have hz : (codes l).take m = codes l := List.take_of_length_le (by rw [codes, List.length_map, HN.out]; exact Nat.le_refl _)
      rw [hz] at HL
      by_cases hm0 : m = 0
      · subst hm0
        have HE : Hid (ens (codes l) = [⟨0, 0, 0, 0⟩]) := Lib.hid (by
          have : codes l = [] := List.eq_nil_of_length_eq_zero (by rw [codes, List.length_map, HN.out])
          rw [this]
          rfl)
        go_wp2_with (first
          | (at_builtin; refine wpList_push (T := 56) (c := 4) (enc := FE.cells) rfl _ _ 33 rfl B i0 _ 48 Tryf.underlying33 HI.out HI0.out HI1.out HI2.out rfl (by decide) FE.cells_len FE.one (.slice va 0 vc) l' rfl (HO.out _) wo.heap.size ⟨none, 0, 0, 0, 0, 0⟩ 1 _ rfl (HBX.out _) rfl H3.out H4.out (HBL.out _) ?_)
          | fail)
        intro v' w4 hown4 hk4
        have HK4 := Lib.hid (HKG.out _ _ hk4); clear hk4
        have HN4 : Hid (Fod w4 B v' (l' ++ [⟨none, 0, 0, 0, 0, 0⟩])) := Lib.hid hown4.fod; clear hown4
        go_wp2_with fail
        go_ret
        refine ⟨_, l' ++ [⟨none, 0, 0, 0, 0, 0⟩], rfl, ?_, ?_, HK4.out⟩
        · rw [HBB.out]; exact HN4.out
        · rw [HE.out]
          have : l' = [] := List.eq_nil_of_length_eq_zero HLN.out
          rw [this]
          rfl
      · obtain ⟨q, rfl⟩ : ∃ q, m = q + 1 := ⟨m - 1, by omega⟩
        obtain ⟨va', vc', hv', -, -, hg1⟩ := HF.out.slice
        obtain ⟨g1, rfl, -, -⟩ : ∃ g1, va = some ⟨g1, 0, none⟩ ∧ True ∧ True := by
          obtain ⟨g1, h1, -, -⟩ := hg1 0 (by rw [HLN.out]; omega)
          injection hv' with e1 e2 e3
          exact ⟨g1, by rw [e1, h1], trivial, trivial⟩
        clear hg1 hv'
        obtain ⟨e, he, -, c1, -, -⟩ := HF.out.cells q (by rw [HLN.out]; omega)
        have HCC : Hid (cleanC (codes l) = (e.k != 1)) := Lib.hid (by rw [← HL.out, ← clean_codes]; exact clean_at HLN.out he)
        clear he
        obtain ⟨k, hk⟩ : ∃ k, e.k = k := ⟨_, rfl⟩
        rw [hk] at c1 HCC
        by_cases hk1 : k = 1
        · subst hk1
          have HE : Hid (ens (codes l) = codes l ++ [⟨0, 0, 0, 0⟩]) := Lib.hid (by unfold ens; rw [HCC.out]; rfl)
          go_wp2_with (first
            | (at_builtin; refine wpList_push (T := 56) (c := 4) (enc := FE.cells) rfl _ _ 33 rfl B i0 _ 48 Tryf.underlying33 HI.out HI0.out HI1.out HI2.out rfl (by decide) FE.cells_len FE.one (.slice (some ⟨g1, 0, none⟩) (q + 1) vc) l' rfl (HO.out _) wo.heap.size ⟨none, 0, 0, 0, 0, 0⟩ 1 _ rfl (HBX.out _) rfl H3.out H4.out (HBL.out _) ?_)
            | fail)
          intro v' w4 hown4 hk4
          have HK4 := Lib.hid (HKG.out _ _ hk4); clear hk4
          have HN4 : Hid (Fod w4 B v' (l' ++ [⟨none, 0, 0, 0, 0, 0⟩])) := Lib.hid hown4.fod; clear hown4
          go_wp2_with fail
          go_ret
          refine ⟨_, l' ++ [⟨none, 0, 0, 0, 0, 0⟩], rfl, ?_, ?_, HK4.out⟩
          · rw [HBB.out]; exact HN4.out
          · rw [HE.out, ← HL.out]
            simp [codes, FE.snap]
        · have hk1b : (k == 1) = false := by simpa using hk1
          have HE : Hid (ens (codes l) = codes l) := Lib.hid (by unfold ens; rw [HCC.out, if_pos (by simpa using hk1)])
          go_wp2_with fail
          go_ret
          refine ⟨_, l', rfl, ?_, ?_, HB.out⟩
          · rw [HBB.out]; exact HF.out
          · rw [HE.out]
            exact HL.out
end Go.Proofs.YtddcpnhpjgeldaaFmt
