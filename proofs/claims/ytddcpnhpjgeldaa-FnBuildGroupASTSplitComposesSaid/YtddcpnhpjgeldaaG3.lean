/- The contracts of n008_135's minIntB2, importBindB2, outerOverB2. -/
import Derived.Test.YtddcpnhpjgeldaaG2
import Derived.Test.YtddcpnhpjgeldaaD4
namespace Go.Proofs.Ytddcpnhpjgeldaa
attribute [local go_sem ↓] Go.wp_at_zero Go.wp_at_succ
open Go.ChangeShapes Go.WideShapes Go.ChangeAt Go.RowKit

theorem min_any (w : World) (a b : Nat) : Calls Try.prog 25 #[.int .i64 (a : Int), .int .i64 (b : Int)] w fun e w' => e = .returned (.int .i64 ((min a b : Nat) : Int)) ∧ w = w' := by
  by_cases h : (a : Int) < (b : Int)
  · have e : min a b = a := by omega
    rw [e]
    go_enter Try.func25, Try.ntmps25
    go_wp2_with fail
    go_ret
    exact ⟨rfl, rfl⟩
  · have e : min a b = b := by omega
    rw [e]
    go_enter Try.func25, Try.ntmps25
    go_wp2_with fail
    go_ret
    exact ⟨rfl, rfl⟩

set_option maxRecDepth 100000 in
theorem importBind_any (w : World) (var file : ByteArray) (a : Option Addr) (n c : Nat) : Calls Try.prog 26 #[.string var, .string file, .slice a n c] w fun e w' => ∃ x, e = .returned (.agg #[.slice a n c, .iface 92 (.pointer (some ⟨x, 0, none⟩)), .slice none 0 0, .string var, .slice none 0 0, .pointer none, .pointer none, .string ⟨#[]⟩, .int .i64 0, .int .i64 0, .int .i64 0, .int .i64 0]) ∧ Kept [] w w' := by
  go_enter Try.func26, Try.ntmps26
  go_wp2_with fail
  refine bodyPost_ret (v := .agg #[.slice a n c, .iface 92 (.pointer (some ⟨w.heap.size + 1 + 1, 0, none⟩)), .slice none 0 0, .string var, .slice none 0 0, .pointer none, .pointer none, .string ⟨#[]⟩, .int .i64 0, .int .i64 0, .int .i64 0, .int .i64 0]) (by simp [results, Try.results26, go_sem]) rfl ?_
  exact ⟨w.heap.size + 1 + 1, rfl, (((Kept.refl _ _).alloc _).alloc _).alloc _⟩

theorem Try.infoLB : (Try.prog.info? 68).map (fun i => (i.zero, i.size, i.bytes)) = some (some (.agg #[.slice none 0 0, .nilIface, .slice none 0 0, .string ⟨#[]⟩, .slice none 0 0, .pointer none, .pointer none, .string ⟨#[]⟩, .int .i64 0, .int .i64 0, .int .i64 0, .int .i64 0]), 12, 168) := by kernel_rfl

theorem goodB_snoc {ys : List BD} (h : goodB ys = true) (t : Trip) (x : Nat) (s : ByteArray) : goodB (ys ++ [⟨t, 0, x, s⟩]) = true := by
  unfold goodB at h ⊢
  rw [List.all_append, h]
  rfl
theorem cell_new (w : World) (cs : Array Value) (t : TypeId) (n : Nat) (hn : n = w.heap.size) (o : Nat) : (w.alloc (.cells cs t)).cell? ⟨n, o, none⟩ = cs[o]? := by
  subst hn
  exact cell_of_block (heap_alloc_new w _) o
/-- At T stands a local, its body is a local of imports alone with this fodder. -/
def Outer (w : World) (base T : Nat) (fv : Value) : Prop :=
  ∃ nb v ys, w.cell? ⟨T, 1, none⟩ = some (.iface 34 (.pointer (some ⟨nb, 0, none⟩))) ∧ w.cell? ⟨nb, 0, none⟩ = some v ∧ w.cell? ⟨nb, 2, none⟩ = some fv ∧ OwnR 68 12 encL w base v ys ∧ goodB ys = true

set_option maxRecDepth 100000 in
set_option maxHeartbeats 4000000 in
theorem outerOver_any (w : World) (fa : Option Addr) (fn fc : Nat) (a0 : Option Addr) (len0 cap0 : Nat) (vs : List ByteArray) (a1 : Option Addr) (len1 cap1 : Nat) (ks : List ByteArray) (h0 : RdB w a0 len0 cap0 vs) (h1 : RdB w a1 len1 cap1 ks) (hlen : len0 ≤ 1048576) :
    Calls Try.prog 13 #[.slice fa fn fc, .slice a0 len0 cap0, .slice a1 len1 cap1] w fun e w' => ∃ T, e = .returned (.pointer (some ⟨T, 0, none⟩)) ∧ Outer w' w.heap.size T (.slice fa fn fc) ∧ Kept [] w w' := by
  have le0 := h0.le
  have top0 := h0.top
  have le1 := h1.le
  have top1 := h1.top
  unfold maxLen at top0 top1
  have H0 := Lib.hid h0; clear h0
  have H1 := Lib.hid h1; clear h1
  obtain ⟨i0, hi, hz0, hz1, hz2⟩ := info_parts Try.infoLB
  have HI := Lib.hid hi; clear hi
  have HI0 := Lib.hid hz0; clear hz0
  have HI1 := Lib.hid hz1; clear hz1
  have HI2 := Lib.hid hz2; clear hz2
  go_enter Try.func13, Try.ntmps13
  go_wp2_with fail
  refine (min_any _ len0 len1).mono ?_
  rintro e w' ⟨rfl, rfl⟩
  obtain ⟨n, hn⟩ : ∃ n, min len0 len1 = n := ⟨_, rfl⟩
  rw [hn]
  have hn0 : n ≤ len0 := by omega
  have hn1 : n ≤ len1 := by omega
  clear hn
  go_wp2_with (at_make; refine wpList_make_own _ rfl _ _ 45 rfl w.heap.size 68 i0 _ 12 Try.underlying45 HI.out HI0.out HI1.out _ _ _ n rfl rfl rfl ?b2 ?b3 (Nat.le_refl _) ?_)
  case b2 => rw [HI2.out]; omega
  case b3 => unfold maxLen; omega
  intro w1 hown hgrow
  have hf : OwnR 68 12 encL w1 w.heap.size (.slice (some ⟨w.heap.size, 0, none⟩) 0 n) [] := hown
  have hb : Kept [] w w1 := (Kept.refl _ _).grown hgrow (by simp)
  clear hown hgrow
  obtain ⟨B, hB⟩ : ∃ B, w.heap.size = B := ⟨_, rfl⟩
  rw [hB] at hf ⊢
  have HBB := Lib.hid hB; clear hB
  have HF := Lib.hid hf; clear hf
  have HB := Lib.hid hb; clear hb
  go_wp2_with fail
  go_loopw [8, 9] (fun v i wr => ∃ m : Nat, m ≤ n ∧ i = .int .i64 m ∧ (∃ ys, OwnR 68 12 encL wr B v ys ∧ ys.length = m ∧ goodB ys = true) ∧ Kept [] w wr) (fun _ i _ => n - (intOf i).toNat)
  case atStart => exact ⟨0, Nat.zero_le _, rfl, ⟨[], HF.out, rfl, rfl⟩, HB.out⟩
  case round =>
    clear HF HB
    obtain ⟨m, hm, rfl, ⟨ys, hf, hln, hgo⟩, hb⟩ := hrel
    have HB := Lib.hid hb; clear hb
    obtain ⟨va, vc, hv, -⟩ := hf.slice
    rw [hln] at hv
    subst hv
    have HLN := Lib.hid hln; clear hln
    have HGO := Lib.hid hgo; clear hgo
    have HF := Lib.hid hf; clear hf
    obtain ⟨wo, rfl⟩ : ∃ wo : World, wo = wr := ⟨_, rfl⟩
    by_cases hlt : m < n
    · obtain ⟨b, o, _, -, hx0, hb0, -⟩ := H0.out.row m (by omega)
      obtain ⟨b1, o1, _, -, hx1, hb1, -⟩ := H1.out.row m (by omega)
      have HB0 := Lib.hid hb0; clear hb0
      have HB1 := Lib.hid hb1; clear hb1
      subst hx0 hx1
      obtain ⟨b', o', s, -, hx, hbl, c0⟩ := (H0.out.kept0 HB.out).row m (by omega)
      obtain ⟨rfl, rfl⟩ : b = b' ∧ o = o' := by simpa using hx
      obtain ⟨b', o', t, -, hx', hbl1, c1⟩ := (H1.out.kept0 HB.out).row m (by omega)
      obtain ⟨rfl, rfl⟩ : b1 = b' ∧ o1 = o' := by simpa using hx'
      clear hx hx'
      have ho : ∀ w2 o', Kept [] wo.drew w2 → OwnR 68 12 encL (w2.alloc o') B (.slice va m vc) ys := fun w2 o' k => HF.out.kept0 (((Kept.refl [] wo).drew.trans k).alloc o')
      have HO := Lib.hid ho; clear ho
      have ownlt : ∀ g, (Value.slice va m vc).ownBlock = some g → B ≤ g := fun g hg => (OwnR.blk HF.out hg).1
      have OWN := Lib.hid ownlt; clear ownlt
      have hgs : B ≤ wo.heap.size := by rw [← HBB.out]; exact HB.out.size
      have HGS := Lib.hid hgs; clear hgs
      have hbl : ∀ w2 o', Kept [] wo.drew w2 → B ≤ (w2.alloc o').heap.size := fun w2 o' k => by
        have h3 : wo.heap.size ≤ w2.heap.size := k.size
        have h4 : (w2.alloc o').heap.size = w2.heap.size + 1 := by simp
        have := HGS.out
        omega
      have HBL := Lib.hid hbl; clear hbl
      have bne : b ∉ (Value.slice va m vc).ownBlock.toList := fun hm => by
        simp at hm
        have := OWN.out b hm
        have := HB0.out
        have := HBB.out
        omega
      have BNE := Lib.hid bne; clear bne
      have bne1 : b1 ∉ (Value.slice va m vc).ownBlock.toList := fun hm => by
        simp at hm
        have := OWN.out b1 hm
        have := HB1.out
        have := HBB.out
        omega
      have BNE1 := Lib.hid bne1; clear bne1
      have H3 : Hid (ys.length + 1 ≤ maxLen) := Lib.hid (by rw [HLN.out]; unfold maxLen; omega)
      have H4 : Hid ((ys.length + 1) * 168 ≤ 140737488355328) := Lib.hid (by rw [HLN.out]; omega)
      have i1 : (0 : Int) ≤ (m : Int) := by omega
      have i2 : (m : Int) < (n : Int) := by omega
      have i3 : (m : Int) < (len0 : Int) := by omega
      have i4 : (m : Int) < (len1 : Int) := by omega
      go_wp2_with fail
      go_region_held3 (fun w' => w'.cell? ⟨b, o + m, none⟩ = some (.string s) ∧ w'.cell? ⟨b1, o1 + m, none⟩ = some (.string t))
        (first
          | go_keep
          | (go_split_ands
             refine ⟨?_, ?_⟩
             · exact k2.cell (by go_simp) (by simp)
             · exact k2.cell (by go_simp) (by simp))
          | (go_split_ands
             refine ⟨?_, ?_⟩
             · exact hk3.cell (by go_simp) BNE.out
             · exact hk3.cell (by go_simp) BNE1.out))
        (first
          | (go_at_call 26; refine (importBind_any _ s t none 0 0).mono ?_; rintro e w2 ⟨x, rfl, k2⟩)
          | ((refine step_push (T := 68) (c := 12) (enc := encL) (by rfl) _ _ 45 (by rfl) B i0 _ 168 Try.underlying45 HI.out HI0.out HI1.out HI2.out rfl (by decide) encL_len encL_one (.slice va m vc) ys (by rfl) (HO.out w2 _ k2) w2.heap.size ⟨(none, 0, 0), 0, x, s⟩ 1 _ (by rfl) (heap_alloc_new w2 _) rfl H3.out H4.out (HBL.out w2 _ k2) ?_; intro v' w3 hown3 hk3)))
      all_goals
        have hkn : Kept [] w w3 := ((HB.out.drew.trans k2).alloc _).then hk3 (fun g hg => by
          simp at hg
          exact Or.inr (by rw [HBB.out]; exact OWN.out g hg))
        have HKN := Lib.hid hkn; clear hkn hk3
        have HN : Hid (∃ ys, OwnR 68 12 encL w3 B v' ys ∧ ys.length = m + 1 ∧ goodB ys = true) := Lib.hid ⟨_, hown3, by rw [List.length_append, HLN.out]; rfl, goodB_snoc HGO.out _ _ _⟩
        clear hown3
        go_wp2_with fail
        exact ⟨⟨m + 1, by omega, by go_num, HN.out, HKN.out⟩, by simp [intOf]; omega⟩
    · obtain rfl : m = n := by omega
      go_wp2_with fail
      refine (importBind_any _ _ _ none 0 0).mono ?_
      rintro e w5 ⟨x, rfl, k5⟩
      have K5 := Lib.hid k5; clear k5
      go_wp2_with fail
      go_ret
      refine ⟨_, rfl, ⟨wo.heap.size + 1, .slice va m vc, ys, ?_, ?_, ?_, ?_, HGO.out⟩, ((((HB.out.alloc _).alloc _).trans K5.out).alloc _).alloc _⟩
      · exact cell_new _ _ _ _ (by simp) 1
      · exact ((K5.out.alloc _).alloc _).cell (cell_new (wo.alloc _) _ _ _ (by simp) 0) (by simp)
      · exact ((K5.out.alloc _).alloc _).cell (cell_new (wo.alloc _) _ _ _ (by simp) 2) (by simp)
      · rw [HBB.out]
        exact HF.out.kept0 ((((((Kept.refl [] wo).alloc _).alloc _).trans K5.out).alloc _).alloc _)
end Go.Proofs.Ytddcpnhpjgeldaa
