/- Import elements in memory; the contracts of n008_135's ZZB2newImportElem, elemsFromB2 without fodders, duplicatedVariables. -/
import Derived.Test.YtddcpnhpjgeldaaOwn
import Derived.Test.YtddcpnhpjgeldaaStr
import Derived.Maps.OwnSet
import Derived.Maps.Views
namespace Go.Proofs.Ytddcpnhpjgeldaa
open Go.ChangeShapes Go.WideShapes Go.ChangeAt Go.RowKit

/-- It returns that bool and changes nothing that was there. -/
def Bl (b : Bool) (w : World) (e : Ending) (w' : World) : Prop := e = .returned (.bool b) ∧ Kept [] w w'
/-- It returns a bool that, if true, says P, and changes nothing that was there. -/
def Tells (P : Prop) (w : World) (e : Ending) (w' : World) : Prop := ∃ b : Bool, e = .returned (.bool b) ∧ Kept [] w w' ∧ (b = true → P)

/-- An import element: its fodder's slice, its key, its variable, its import's block. -/
structure IE where
  adj : Trip
  key : ByteArray
  var : ByteArray
  imp : Nat
  deriving Inhabited
def encI (y : IE) : List Value := [y.adj.val, .string y.key, .slice none 0 0, .iface 92 (.pointer (some ⟨y.imp, 0, none⟩)), .slice none 0 0, .string y.var, .slice none 0 0, .pointer none, .pointer none, .string ⟨#[]⟩, .int .i64 0, .int .i64 0, .int .i64 0, .int .i64 0]
theorem encI_len (y : IE) : (encI y).length = 14 := rfl
theorem encI_one (y : IE) : ∀ u ∈ encI y, u.oneCell' = true := by
  intro u hu
  simp only [encI, List.mem_cons, List.not_mem_nil, or_false] at hu
  rcases hu with rfl | rfl | rfl | rfl | rfl | rfl | rfl | rfl | rfl | rfl | rfl | rfl | rfl | rfl <;> rfl

set_option maxRecDepth 100000 in
theorem newImp_any (w : World) (key var : ByteArray) (a : Option Addr) (n c : Nat) : Calls Try.prog 32 #[.string key, .string var, .slice a n c] w fun e w' => ∃ x, e = .returned (.agg (encI ⟨(a, n, c), key, var, x⟩).toArray) ∧ Kept [] w w' := by
  go_enter Try.func32, Try.ntmps32
  go_wp2_with fail
  refine bodyPost_ret (v := .agg #[.slice a n c, .string key, .slice none 0 0, .iface 92 (.pointer (some ⟨w.heap.size + 1 + 1, 0, none⟩)), .slice none 0 0, .string var, .slice none 0 0, .pointer none, .pointer none, .string ⟨#[]⟩, .int .i64 0, .int .i64 0, .int .i64 0, .int .i64 0]) (by simp [results, Try.results32, go_sem]) rfl ?_
  exact ⟨w.heap.size + 1 + 1, rfl, (((Kept.refl _ _).alloc _).alloc _).alloc _⟩

theorem Try.infoIE : (Try.prog.info? 70).map (fun i => (i.zero, i.size, i.bytes)) = some (some (.agg #[.slice none 0 0, .string ⟨#[]⟩, .slice none 0 0, .nilIface, .slice none 0 0, .string ⟨#[]⟩, .slice none 0 0, .pointer none, .pointer none, .string ⟨#[]⟩, .int .i64 0, .int .i64 0, .int .i64 0, .int .i64 0]), 14, 208) := by kernel_rfl

/-- v is a slice of import elements, of the call's own, that bind these variables. -/
def Els (w : World) (base : Nat) (v : Value) (vs : List ByteArray) : Prop := ∃ ys : List IE, OwnR 70 14 encI w base v ys ∧ ys.map IE.var = vs
theorem Els.kept0 {w w' : World} {base : Nat} {v : Value} {vs : List ByteArray} (h : Els w base v vs) (q : Kept [] w w') : Els w' base v vs := by
  obtain ⟨ys, h1, h2⟩ := h
  exact ⟨ys, h1.kept0 q, h2⟩

set_option maxRecDepth 100000 in
set_option maxHeartbeats 4000000 in
theorem elemsFrom_nil (w : World) (a0 : Option Addr) (len0 cap0 : Nat) (vs : List ByteArray) (a1 : Option Addr) (len1 cap1 : Nat) (ks : List ByteArray) (h0 : IsStrs w a0 len0 cap0 vs) (h1 : IsStrs w a1 len1 cap1 ks) (hlen : len0 ≤ 1048576) :
    Calls Try.prog 15 #[.slice a0 len0 cap0, .slice a1 len1 cap1, .slice none 0 0] w fun e w' => ∃ t : Trip, e = .returned t.val ∧ t.2.1 = len0 ∧ Els w' w.heap.size t.val (vs.take len0) ∧ Kept [] w w' := by
  obtain ⟨le0, top0, hz0, -, hc0⟩ := h0.open
  obtain ⟨le1, top1, hz1, -, hc1⟩ := h1.open
  unfold maxLen at top0 top1
  clear h0 h1
  have HZ0 := Lib.hid hz0; clear hz0
  have HZ1 := Lib.hid hz1; clear hz1
  have HC0 := Lib.hid hc0; clear hc0
  have HC1 := Lib.hid hc1; clear hc1
  obtain ⟨i0, hi, hz0, hz1, hz2⟩ := info_parts Try.infoIE
  have HI := Lib.hid hi; clear hi
  have HI0 := Lib.hid hz0; clear hz0
  have HI1 := Lib.hid hz1; clear hz1
  have HI2 := Lib.hid hz2; clear hz2
  go_enter Try.func15, Try.ntmps15
  go_wp2_with (at_make; refine wpList_make_own _ rfl _ _ 37 rfl w.heap.size 70 i0 _ 14 Try.underlying37 HI.out HI0.out HI1.out _ _ _ len0 rfl rfl rfl ?b2 ?b3 (Nat.le_refl _) ?_)
  case b2 => rw [HI2.out]; omega
  case b3 => unfold maxLen; omega
  intro w1 hown hgrow
  have hf : Els w1 w.heap.size (.slice (some ⟨w.heap.size, 0, none⟩) 0 len0) [] := ⟨[], hown, rfl⟩
  have hb : Kept [] w w1 := (Kept.refl _ _).grown hgrow (by simp)
  clear hown hgrow
  obtain ⟨B, hB⟩ : ∃ B, w.heap.size = B := ⟨_, rfl⟩
  rw [hB] at hf
  have HBB := Lib.hid hB
  have HF := Lib.hid hf; clear hf
  have HB := Lib.hid hb; clear hb
  rw [hB]
  clear hB
  go_wp2
  go_loopw [7, 8] (fun v i wr => ∃ m : Nat, m ≤ len0 ∧ i = .int .i64 m ∧ Els wr B v (vs.take m) ∧ Kept [] w wr) (fun _ i _ => len0 - (intOf i).toNat)
  case atStart => exact ⟨0, Nat.zero_le _, rfl, HF.out, HB.out⟩
  case round =>
    clear HF HB
    obtain ⟨m, hm, rfl, ⟨ys, hf, hy⟩, hb⟩ := hrel
    have HB := Lib.hid hb; clear hb
    have hln : ys.length = m := by have := congrArg List.length hy; simp only [List.length_map, List.length_take] at this; have := HZ0.out; omega
    obtain ⟨va, vc, hv, -⟩ := hf.slice
    rw [hln] at hv
    subst hv
    have HLN := Lib.hid hln; clear hln
    have HY := Lib.hid hy; clear hy
    have HF := Lib.hid hf; clear hf
    by_cases hlt : m < len0
    · obtain ⟨b, o, rfl, hbl, hc⟩ := HC0.out m hlt
      have c0 := HB.out.cell (hc m (by omega)) (by simp)
      clear hc
      obtain ⟨s, hs⟩ : ∃ s, vs.getD m ByteArray.empty = s := ⟨_, rfl⟩
      rw [hs] at c0
      have hsn : vs.take (m + 1) = vs.take m ++ [s] := by
        rw [List.take_add_one, ← hs, List.getD_eq_getElem?_getD, List.getElem?_eq_getElem (show m < vs.length by rw [HZ0.out]; omega)]
        simp
      have HSN := Lib.hid hsn; clear hsn hs
      have hkey : ∃ key : ByteArray, (m < len1 → ∃ b1 o1, a1 = some ⟨b1, o1, none⟩ ∧ wr.cell? ⟨b1, o1 + m, none⟩ = some (.string key)) ∧ (¬ m < len1 → key = ⟨#[]⟩) := by
        by_cases hk : m < len1
        · obtain ⟨b1, o1, rfl, hb1, hc⟩ := HC1.out m hk
          exact ⟨_, fun _ => ⟨b1, o1, rfl, HB.out.cell (hc m (by omega)) (by simp)⟩, fun h => absurd hk h⟩
        · exact ⟨_, fun h => absurd h hk, fun _ => rfl⟩
      obtain ⟨key, hk1, hk2⟩ := hkey
      have H3 : Hid (ys.length + 1 ≤ maxLen) := Lib.hid (by rw [HLN.out]; unfold maxLen; omega)
      have H4 : Hid ((ys.length + 1) * 208 ≤ 140737488355328) := Lib.hid (by rw [HLN.out]; omega)
      have fin : ∀ (x : Nat) (w3 : World), Kept [] wr w3 → ∀ v' w4, OwnR 70 14 encI w4 B v' (ys ++ [⟨(none, 0, 0), key, s, x⟩]) → Kept (Value.slice va m vc).ownBlock.toList (w3.alloc (.cells (encI ⟨(none, 0, 0), key, s, x⟩).toArray 70)) w4 → Els w4 B v' (vs.take (m + 1)) ∧ Kept [] w w4 := by
        intro x w3 k3 v' w4 ho hk4
        refine ⟨⟨_, ho, by rw [List.map_append, HY.out, HSN.out]; rfl⟩, ((HB.out.trans k3).alloc _).then hk4 (fun g hg => ?_)⟩
        simp only [Option.mem_toList] at hg
        exact Or.inr (by rw [HBB.out]; exact (OwnR.blk HF.out hg).1)
      have FIN := Lib.hid fin; clear fin
      have hbw : B ≤ wr.heap.size := by rw [← HBB.out]; exact HB.out.size
      have HBW := Lib.hid hbw; clear hbw
      by_cases hk : m < len1
      · obtain ⟨b1, o1, rfl, d0⟩ := hk1 hk
        clear hk1 hk2
        go_wp2_with fail
        refine (newImp_any _ key s none 0 0).mono ?_
        rintro e w3 ⟨x, rfl, k3⟩
        have ho : ∀ o', OwnR 70 14 encI (w3.alloc o') B (.slice va m vc) ys := fun o' => (HF.out.kept0 k3).kept0 ((Kept.refl [] w3).alloc o')
        have HO := Lib.hid ho; clear ho
        have hbl3 : ∀ o', B ≤ (w3.alloc o').heap.size := fun o' => by
          have h4 : (w3.alloc o').heap.size = w3.heap.size + 1 := by simp
          have := k3.size
          have := HBW.out
          omega
        have HBL := Lib.hid hbl3; clear hbl3
        have K3 := Lib.hid k3; clear k3
        unfold encI
        go_wp2_with (first
          | (at_builtin; refine wpList_push (T := 70) (c := 14) (enc := encI) rfl _ _ 37 rfl B i0 _ 208 Try.underlying37 HI.out HI0.out HI1.out HI2.out rfl (by decide) encI_len encI_one (.slice va m vc) ys rfl (HO.out _) w3.heap.size ⟨(none, 0, 0), key, s, x⟩ 1 _ rfl (heap_alloc_new w3 _) rfl H3.out H4.out (HBL.out _) ?_)
          | fail)
        intro v' w4 hown4 hk4
        obtain ⟨f1, f2⟩ := FIN.out x w3 K3.out v' w4 hown4 hk4
        have F1 := Lib.hid f1; clear f1
        have F2 := Lib.hid f2; clear f2 hown4 hk4
        go_wp2_with fail
        exact ⟨⟨m + 1, by omega, by go_num, F1.out, F2.out⟩, by simp [intOf]; omega⟩
      · obtain rfl := hk2 hk
        clear hk1 hk2
        go_wp2_with fail
        refine (newImp_any _ ⟨#[]⟩ s none 0 0).mono ?_
        rintro e w3 ⟨x, rfl, k3⟩
        have ho : ∀ o', OwnR 70 14 encI (w3.alloc o') B (.slice va m vc) ys := fun o' => (HF.out.kept0 k3).kept0 ((Kept.refl [] w3).alloc o')
        have HO := Lib.hid ho; clear ho
        have hbl3 : ∀ o', B ≤ (w3.alloc o').heap.size := fun o' => by
          have h4 : (w3.alloc o').heap.size = w3.heap.size + 1 := by simp
          have := k3.size
          have := HBW.out
          omega
        have HBL := Lib.hid hbl3; clear hbl3
        have K3 := Lib.hid k3; clear k3
        unfold encI
        go_wp2_with (first
          | (at_builtin; refine wpList_push (T := 70) (c := 14) (enc := encI) rfl _ _ 37 rfl B i0 _ 208 Try.underlying37 HI.out HI0.out HI1.out HI2.out rfl (by decide) encI_len encI_one (.slice va m vc) ys rfl (HO.out _) w3.heap.size ⟨(none, 0, 0), ⟨#[]⟩, s, x⟩ 1 _ rfl (heap_alloc_new w3 _) rfl H3.out H4.out (HBL.out _) ?_)
          | fail)
        intro v' w4 hown4 hk4
        obtain ⟨f1, f2⟩ := FIN.out x w3 K3.out v' w4 hown4 hk4
        have F1 := Lib.hid f1; clear f1
        have F2 := Lib.hid f2; clear f2 hown4 hk4
        go_wp2_with fail
        exact ⟨⟨m + 1, by omega, by go_num, F1.out, F2.out⟩, by simp [intOf]; omega⟩
    · obtain rfl : m = len0 := by omega
      go_wp2
      go_ret
      exact ⟨(va, m, vc), rfl, rfl, ⟨ys, by rw [HBB.out]; exact HF.out, HY.out⟩, HB.out⟩
end Go.Proofs.Ytddcpnhpjgeldaa
