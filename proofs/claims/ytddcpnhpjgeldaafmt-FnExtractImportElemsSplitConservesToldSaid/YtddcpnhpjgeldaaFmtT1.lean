/- The contracts of n008_135's kindOfB2, commentsB2, toFodderB2: the fodder that codes tell. -/
import Derived.Test.YtddcpnhpjgeldaaFmtOwn
import Derived.WalkSpells
import Derived.StillTailTactics
import Derived.Deep.AppendLies
namespace Go.Proofs.YtddcpnhpjgeldaaFmt
attribute [local go_sem ↓] Go.wp_at_zero Go.wp_at_succ
open Go.ChangeShapes Go.WideShapes Go.ChangeAt Go.RowKit

/-- The kind and the number of comments that a code stands for. -/
def kk (k : Int) : Int := if k = 1 then 1 else if k = 2 then 2 else 0
def nc (c : Int) : Nat := if c ≤ 0 then 0 else if 4 < c then 4 else c.toNat
def nz (z : ZE) : ZE := ⟨kk z.k, z.b, z.i, nc z.c⟩
def FE.snap (e : FE) : ZE := ⟨e.k, e.b, e.i, e.cl⟩
abbrev codes (l : List FE) : List ZE := l.map FE.snap
theorem take_snoc {α : Type} {ds : List α} {k : Nat} {z : α} (h : ds[k]? = some z) : ds.take (k + 1) = ds.take k ++ [z] := by
  rw [List.take_add_one, h]; rfl
theorem nc_le (c : Int) : nc c ≤ 4 := by unfold nc; split <;> (try split) <;> omega

theorem kindOf_any (w : World) (k : Int) : Calls Tryf.prog 22 #[.int .i64 k] w fun e w' => e = .returned (.int .i64 (kk k)) ∧ w' = w := by
  unfold kk
  by_cases h1 : k = 1
  · subst h1
    go_enter Tryf.func22, Tryf.ntmps22
    go_wp2_with fail
    go_ret
    exact ⟨rfl, rfl⟩
  have e1 : (k == 1) = false := by simpa using h1
  by_cases h2 : k = 2
  · subst h2
    go_enter Tryf.func22, Tryf.ntmps22
    go_wp2_with fail
    go_ret
    exact ⟨rfl, rfl⟩
  have e2 : (k == 2) = false := by simpa using h2
  rw [if_neg h1, if_neg h2]
  go_enter Tryf.func22, Tryf.ntmps22
  go_wp2_with fail
  go_ret
  exact ⟨rfl, rfl⟩

def encB (s : ByteArray) : List Value := [.string s]
theorem encB_len (s : ByteArray) : (encB s).length = 1 := rfl
theorem encB_one (s : ByteArray) : ∀ u ∈ encB s, u.oneCell' = true := by
  intro u hu
  simp only [encB, List.mem_cons, List.not_mem_nil, or_false] at hu
  subst hu; rfl
theorem Tryf.infoStr : (Tryf.prog.info? 9).map (fun i => (i.zero, i.size, i.bytes)) = some (some (.string ByteArray.empty), 1, 16) := by kernel_rfl

set_option maxRecDepth 100000 in
set_option maxHeartbeats 4000000 in
theorem comments_go (w : World) (c : Int) (n : Nat) (hn : (if 4 < c then 4 else c) = n) (hn4 : n ≤ 4) (hc : ¬ c ≤ 0) : Calls Tryf.prog 23 #[.int .i64 c] w fun e w' => ∃ a cc, e = .returned (.slice a n cc) ∧ Kept [] w w' := by
  obtain ⟨i0, hi, hz0, hz1, hz2⟩ := info_parts Tryf.infoStr
  have HI := Lib.hid hi; clear hi
  have HI0 := Lib.hid hz0; clear hz0
  have HI1 := Lib.hid hz1; clear hz1
  have HI2 := Lib.hid hz2; clear hz2
  by_cases h4 : 4 < c
  · rw [if_pos h4] at hn
    obtain rfl : n = 4 := by omega
    clear hn hn4
    go_enter Tryf.func23, Tryf.ntmps23
    go_wp2_with (at_make; refine wpList_make_own _ rfl _ _ 22 rfl w.heap.size 9 i0 _ 1 Tryf.underlying22 HI.out HI0.out HI1.out _ _ _ 4 rfl rfl rfl ?b2 ?b3 (Nat.le_refl _) ?_)
    case b2 => rw [HI2.out]; omega
    case b3 => unfold maxLen; omega
    intro w1 hown hgrow
    have hf : OwnR 9 1 encB w1 w.heap.size (.slice (some ⟨w.heap.size, 0, none⟩) 0 4) [] := hown
    have hb : Kept [] w w1 := (Kept.refl _ _).grown hgrow (by simp)
    clear hown hgrow
    obtain ⟨B, hB⟩ : ∃ B, w.heap.size = B := ⟨_, rfl⟩
    rw [hB] at hf ⊢
    have HBB := Lib.hid hB; clear hB
    have HF := Lib.hid hf; clear hf
    have HB := Lib.hid hb; clear hb
    go_wp2
    go_loopw [3, 4] (fun v i wr => ∃ m : Nat, m ≤ 4 ∧ i = .int .i64 m ∧ (∃ l, OwnR 9 1 encB wr B v l ∧ l.length = m) ∧ Kept [] w wr) (fun _ i _ => 4 - (intOf i).toNat)
    case atStart => exact ⟨0, Nat.zero_le _, rfl, ⟨[], HF.out, rfl⟩, HB.out⟩
    case round =>
      clear HF HB
      obtain ⟨m, hm, rfl, ⟨l, hf, hl⟩, hb⟩ := hrel
      have HB := Lib.hid hb; clear hb
      obtain ⟨va, vc, hv, -⟩ := hf.slice
      rw [hl] at hv
      subst hv
      have HF := Lib.hid hf; clear hf
      have HLN := Lib.hid hl; clear hl
      by_cases hlt : m < 4
      · have ho : ∀ o', OwnR 9 1 encB (wr.alloc o') B (.slice va m vc) l := fun o' => HF.out.kept0 ((Kept.refl [] wr).alloc o')
        have HO := Lib.hid ho; clear ho
        have hbl3 : ∀ o', B ≤ (wr.alloc o').heap.size := fun o' => by
          have h4 : (wr.alloc o').heap.size = wr.heap.size + 1 := by simp
          have := HB.out.size
          have := HBB.out
          omega
        have HBL := Lib.hid hbl3; clear hbl3
        have H3 : Hid (l.length + 1 ≤ maxLen) := Lib.hid (by rw [HLN.out]; unfold maxLen; omega)
        have H4 : Hid ((l.length + 1) * 16 ≤ 140737488355328) := Lib.hid (by rw [HLN.out]; omega)
        go_wp2_with (first
          | (at_builtin; refine wpList_push (T := 9) (c := 1) (enc := encB) rfl _ _ 22 rfl B i0 _ 16 Tryf.underlying22 HI.out HI0.out HI1.out HI2.out rfl (by decide) encB_len encB_one (.slice va m vc) l rfl (HO.out _) wr.heap.size ⟨#[47, 47, 32, 99]⟩ 1 _ rfl (heap_alloc_new wr _) rfl H3.out H4.out (HBL.out _) ?_)
          | fail)
        intro v' w4 hown4 hk4
        have hkn : Kept [] w w4 := (HB.out.alloc _).then hk4 (fun g hg => by
          simp only [Option.mem_toList] at hg
          exact Or.inr (by rw [HBB.out]; exact (OwnR.blk HF.out hg).1))
        have HKN := Lib.hid hkn; clear hkn hk4
        have HN : Hid (∃ l', OwnR 9 1 encB w4 B v' l' ∧ l'.length = m + 1) := Lib.hid ⟨_, hown4, by rw [List.length_append, HLN.out]; rfl⟩
        clear hown4
        go_wp2_with fail
        exact ⟨⟨m + 1, by omega, by go_num, HN.out, HKN.out⟩, by simp [intOf]; omega⟩
      · obtain rfl : m = 4 := by omega
        go_wp2
        go_ret
        exact ⟨va, vc, rfl, HB.out⟩
  · rw [if_neg h4] at hn
    subst hn
    go_enter Tryf.func23, Tryf.ntmps23
    go_wp2_with (at_make; refine wpList_make_own _ rfl _ _ 22 rfl w.heap.size 9 i0 _ 1 Tryf.underlying22 HI.out HI0.out HI1.out _ _ _ n rfl rfl rfl ?b2 ?b3 (Nat.le_refl _) ?_)
    case b2 => rw [HI2.out]; omega
    case b3 => unfold maxLen; omega
    intro w1 hown hgrow
    have hf : OwnR 9 1 encB w1 w.heap.size (.slice (some ⟨w.heap.size, 0, none⟩) 0 n) [] := hown
    have hb : Kept [] w w1 := (Kept.refl _ _).grown hgrow (by simp)
    clear hown hgrow
    obtain ⟨B, hB⟩ : ∃ B, w.heap.size = B := ⟨_, rfl⟩
    rw [hB] at hf ⊢
    have HBB := Lib.hid hB; clear hB
    have HF := Lib.hid hf; clear hf
    have HB := Lib.hid hb; clear hb
    go_wp2
    go_loopw [3, 4] (fun v i wr => ∃ m : Nat, m ≤ n ∧ i = .int .i64 m ∧ (∃ l, OwnR 9 1 encB wr B v l ∧ l.length = m) ∧ Kept [] w wr) (fun _ i _ => n - (intOf i).toNat)
    case atStart => exact ⟨0, Nat.zero_le _, rfl, ⟨[], HF.out, rfl⟩, HB.out⟩
    case round =>
      clear HF HB
      obtain ⟨m, hm, rfl, ⟨l, hf, hl⟩, hb⟩ := hrel
      have HB := Lib.hid hb; clear hb
      obtain ⟨va, vc, hv, -⟩ := hf.slice
      rw [hl] at hv
      subst hv
      have HF := Lib.hid hf; clear hf
      have HLN := Lib.hid hl; clear hl
      by_cases hlt : m < n
      · have ho : ∀ o', OwnR 9 1 encB (wr.alloc o') B (.slice va m vc) l := fun o' => HF.out.kept0 ((Kept.refl [] wr).alloc o')
        have HO := Lib.hid ho; clear ho
        have hbl3 : ∀ o', B ≤ (wr.alloc o').heap.size := fun o' => by
          have h4 : (wr.alloc o').heap.size = wr.heap.size + 1 := by simp
          have := HB.out.size
          have := HBB.out
          omega
        have HBL := Lib.hid hbl3; clear hbl3
        have H3 : Hid (l.length + 1 ≤ maxLen) := Lib.hid (by rw [HLN.out]; unfold maxLen; omega)
        have H4 : Hid ((l.length + 1) * 16 ≤ 140737488355328) := Lib.hid (by rw [HLN.out]; omega)
        go_wp2_with (first
          | (at_builtin; refine wpList_push (T := 9) (c := 1) (enc := encB) rfl _ _ 22 rfl B i0 _ 16 Tryf.underlying22 HI.out HI0.out HI1.out HI2.out rfl (by decide) encB_len encB_one (.slice va m vc) l rfl (HO.out _) wr.heap.size ⟨#[47, 47, 32, 99]⟩ 1 _ rfl (heap_alloc_new wr _) rfl H3.out H4.out (HBL.out _) ?_)
          | fail)
        intro v' w4 hown4 hk4
        have hkn : Kept [] w w4 := (HB.out.alloc _).then hk4 (fun g hg => by
          simp only [Option.mem_toList] at hg
          exact Or.inr (by rw [HBB.out]; exact (OwnR.blk HF.out hg).1))
        have HKN := Lib.hid hkn; clear hkn hk4
        have HN : Hid (∃ l', OwnR 9 1 encB w4 B v' l' ∧ l'.length = m + 1) := Lib.hid ⟨_, hown4, by rw [List.length_append, HLN.out]; rfl⟩
        clear hown4
        go_wp2_with fail
        exact ⟨⟨m + 1, by omega, by go_num, HN.out, HKN.out⟩, by simp [intOf]; omega⟩
      · obtain rfl : m = n := by omega
        go_wp2
        go_ret
        exact ⟨va, vc, rfl, HB.out⟩

theorem comments_any (w : World) (c : Int) : Calls Tryf.prog 23 #[.int .i64 c] w fun e w' => ∃ a cc, e = .returned (.slice a (nc c) cc) ∧ Kept [] w w' := by
  by_cases h0 : c ≤ 0
  · rw [show nc c = 0 by unfold nc; rw [if_pos h0]]
    go_enter Tryf.func23, Tryf.ntmps23
    go_wp2_with fail
    go_ret
    exact ⟨_, _, rfl, Kept.refl _ _⟩
  · exact comments_go w c (nc c) (by unfold nc; rw [if_neg h0]; split <;> omega) (nc_le c) h0

set_option maxRecDepth 100000 in
set_option maxHeartbeats 8000000 in
theorem toFodder_any (w : World) (a : Option Addr) (len cap : Nat) (ds : List ZE) (h : RdZ w a len cap ds) (hlen : len ≤ 1048576) :
    Calls Tryf.prog 10 #[.slice a len cap] w fun e w' => ∃ v l, e = .returned v ∧ Fod w' w.heap.size v l ∧ codes l = ds.map nz ∧ Kept [] w w' := by
  have heq := fun (w : World) (a : Option Addr) (l c : Nat) => Lib.run_eql_slice_nil (P := Tryf.prog) w 24 75 a l c 0 0 Tryf.underlying24
  cases a with
  | none =>
    obtain ⟨rfl, rfl⟩ := h.nil'
    clear h
    go_enter Tryf.func10, Tryf.ntmps10
    go_wp2
    go_ret
    exact ⟨.slice none 0 0, [], rfl, fod_nil _ _, rfl, Kept.refl _ _⟩
  | some x =>
  have hle := h.le
  have htop := h.top
  have hdl := h.len
  unfold maxLen at htop
  have HDL := Lib.hid hdl; clear hdl
  have H := Lib.hid h; clear h
  obtain ⟨i0, hi, hz0, hz1, hz2⟩ := info_parts Tryf.infoFE
  have HI := Lib.hid hi; clear hi
  have HI0 := Lib.hid hz0; clear hz0
  have HI1 := Lib.hid hz1; clear hz1
  have HI2 := Lib.hid hz2; clear hz2
  go_enter Tryf.func10, Tryf.ntmps10
  go_wp2_with (at_make; refine wpList_make_own _ rfl _ _ 33 rfl w.heap.size 56 i0 _ 4 Tryf.underlying33 HI.out HI0.out HI1.out _ _ _ len rfl rfl rfl ?b2 ?b3 (Nat.le_refl _) ?_)
  case b2 => rw [HI2.out]; omega
  case b3 => unfold maxLen; omega
  intro w1 hown hgrow
  have hf : Fod w1 w.heap.size (.slice (some ⟨w.heap.size, 0, none⟩) 0 len) [] := hown
  have hb : Kept [] w w1 := (Kept.refl _ _).grown hgrow (by simp)
  clear hown hgrow heq
  obtain ⟨B, hB⟩ : ∃ B, w.heap.size = B := ⟨_, rfl⟩
  rw [hB] at hf ⊢
  have HBB := Lib.hid hB; clear hB
  have HF := Lib.hid hf; clear hf
  have HB := Lib.hid hb; clear hb
  go_wp2
  go_loopw [3, 4] (fun v i wr => ∃ m : Nat, m ≤ len ∧ i = .int .i64 m ∧ (∃ l, Fod wr B v l ∧ codes l = (ds.take m).map nz) ∧ Kept [] w wr) (fun _ i _ => len - (intOf i).toNat)
  case atStart => exact ⟨0, Nat.zero_le _, rfl, ⟨[], HF.out, rfl⟩, HB.out⟩
  case round =>
    clear HF HB
    obtain ⟨m, hm, rfl, ⟨l, hf, hl⟩, hb⟩ := hrel
    have HB := Lib.hid hb; clear hb
    have hln : l.length = m := by have := congrArg List.length hl; simp only [codes, List.length_map, List.length_take] at this; have := HDL.out; omega
    have HLN := Lib.hid hln; clear hln
    have HL := Lib.hid hl; clear hl
    obtain ⟨va, vc, hv, -⟩ := hf.slice
    rw [HLN.out] at hv
    subst hv
    have HF := Lib.hid hf; clear hf
    obtain ⟨wo, rfl⟩ : ∃ wo : World, wo = wr := ⟨_, rfl⟩
    by_cases hlt : m < len
    · obtain ⟨b, o, _, _, hx0, hb0, _⟩ := H.out.cells m hlt
      obtain rfl : x = ⟨b, o, none⟩ := by simpa using hx0
      have HB0 := Lib.hid hb0; clear hb0 hx0
      obtain ⟨b', o', ⟨zk, zb, zi, zc⟩, hz, hx, hbl, c0, c1, c2, c3⟩ := (H.out.kept0 HB.out).cells m hlt
      obtain ⟨rfl, rfl⟩ : b = b' ∧ o = o' := by simpa using hx
      clear hx
      dsimp only at c0 c1 c2 c3
      have ho : ∀ w2 o', Kept [] wo.drew w2 → OwnR 56 4 FE.cells (w2.alloc o') B (.slice va m vc) l := fun w2 o' k => (HF.out.kept (((Kept.refl [] wo).drew.trans k).alloc o') (by simp)).own
      have HO := Lib.hid ho; clear ho
      have hcd : ∀ ca cc, codes (l ++ [⟨ca, nc zc, cc, kk zk, zb, zi⟩]) = (ds.take (m + 1)).map nz := by
        intro ca cc
        rw [take_snoc hz, List.map_append, ← HL.out]
        simp [codes, FE.snap, nz]
      have HCD := Lib.hid hcd; clear hcd hz
      have ownlt : ∀ g, (Value.slice va m vc).ownBlock = some g → w.heap.size ≤ g := fun g hg => by have := (World.ownsRow.lt HF.out g hg).1; rw [HBB.out]; exact this
      have OWN := Lib.hid ownlt; clear ownlt
      have hbl : ∀ w2 o', Kept [] wo.drew w2 → B ≤ (w2.alloc o').heap.size := fun w2 o' k => by
        have h1 := HBB.out
        have h2 := HB.out.size
        have h3 : wo.heap.size ≤ w2.heap.size := k.size
        have h4 : (w2.alloc o').heap.size = w2.heap.size + 1 := by simp
        omega
      have HBL := Lib.hid hbl; clear hbl
      have bne : b ∉ (Value.slice va m vc).ownBlock.toList := fun hm => by
        simp at hm
        have := OWN.out b hm
        have := HB0.out
        omega
      have BNE := Lib.hid bne; clear bne
      have hc3 : l.length + 1 ≤ maxLen := by rw [HLN.out]; unfold maxLen; omega
      have hc4 : (l.length + 1) * 48 ≤ 140737488355328 := by rw [HLN.out]; omega
      have H3 := Lib.hid hc3
      have H4 := Lib.hid hc4
      clear hc3 hc4
      have i1 : (0 : Int) ≤ (m : Int) := by omega
      have i2 : (m : Int) < (len : Int) := by omega
      go_wp2_with fail
      go_region_held3 (fun w' => w'.cell? ⟨b, o + m * 4, none⟩ = some (.int .i64 zk) ∧ w'.cell? ⟨b, o + m * 4 + 1, none⟩ = some (.int .i64 zb) ∧ w'.cell? ⟨b, o + m * 4 + 2, none⟩ = some (.int .i64 zi) ∧ w'.cell? ⟨b, o + m * 4 + 3, none⟩ = some (.int .i64 zc))
        (first
          | go_keep
          | (go_split_ands
             refine ⟨?_, ?_, ?_, ?_⟩
             · exact k2.cell (by go_simp) (by simp)
             · exact k2.cell (by go_simp) (by simp)
             · exact k2.cell (by go_simp) (by simp)
             · exact k2.cell (by go_simp) (by simp))
          | (go_split_ands
             refine ⟨?_, ?_, ?_, ?_⟩
             · exact hk3.cell (by go_simp) BNE.out
             · exact hk3.cell (by go_simp) BNE.out
             · exact hk3.cell (by go_simp) BNE.out
             · exact hk3.cell (by go_simp) BNE.out))
        (first
          | (go_at_call 22; refine (kindOf_any _ zk).mono ?_; rintro e wk ⟨rfl, rfl⟩)
          | (go_at_call 23; refine (comments_any _ zc).mono ?_; rintro e w2 ⟨ca, cc, rfl, k2⟩)
          | ((refine step_push (T := 56) (c := 4) (enc := FE.cells) (by rfl) _ _ 33 (by rfl) B i0 _ 48 Tryf.underlying33 HI.out HI0.out HI1.out HI2.out rfl (by decide) FE.cells_len FE.one (.slice va m vc) l (by rfl) (HO.out w2 _ k2) w2.heap.size ⟨ca, nc zc, cc, kk zk, zb, zi⟩ 1 _ (by rfl) (heap_alloc_new w2 _) rfl H3.out H4.out (HBL.out w2 _ k2) ?_; intro v' w3 hown3 hk3)))
      all_goals
        have hkn : Kept [] w w3 := ((HB.out.drew.trans k2).alloc _).then hk3 (fun g hg => by
          simp at hg
          exact Or.inr (OWN.out g hg))
        have HKN := Lib.hid hkn; clear hkn hk3
        have HFN := Lib.hid hown3.fod; clear hown3
        have HCD2 := Lib.hid (HCD.out ca cc); clear HCD
        go_wp2_with fail
        exact ⟨⟨m + 1, by omega, by go_num, ⟨_, HFN.out, HCD2.out⟩, HKN.out⟩, by simp [intOf]; omega⟩
    · obtain rfl : m = len := by omega
      go_wp2
      go_ret
      rw [HBB.out]
      refine ⟨_, l, rfl, HF.out, ?_, HB.out⟩
      rw [HL.out, ← HDL.out, List.take_length]
end Go.Proofs.YtddcpnhpjgeldaaFmt
