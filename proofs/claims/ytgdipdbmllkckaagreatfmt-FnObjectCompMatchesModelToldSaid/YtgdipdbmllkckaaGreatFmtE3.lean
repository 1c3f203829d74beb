/- The contracts of n008_142's zzToEls and zzEnsured: codes that the call itself writes. -/
import Derived.Test.YtgdipdbmllkckaaGreatFmtE2
namespace Go.Proofs.YtgdipdbmllkckaaGreatFmt
attribute [local go_sem ↓] Go.wp_at_zero Go.wp_at_succ
open Go.ChangeShapes Go.WideShapes Go.ChangeAt Go.RowKit

/-- It returns a slice that reads as these codes, and changes nothing that was there. -/
def Codes (ds : List ZE) (w : World) (e : Ending) (w' : World) : Prop := ∃ t : Trip, e = .returned t.val ∧ Snp w' w.heap.size t.val ds ∧ Kept [] w w'

theorem zzKindBack_still (w : World) (k : Int) (hk : k = 0 ∨ k = 1 ∨ k = 2) : Calls Tryz.prog 29 #[.int .i64 k] w fun e w' => e = .returned (.int .i64 k) ∧ w' = w := zzKindBack_any w k hk

set_option maxRecDepth 100000 in
set_option maxHeartbeats 8000000 in
theorem zzToEls_any (w : World) (base : Nat) (v : Value) (l : List FE) (h : Fod w base v l) (hk : Kinds l) (hlen : l.length ≤ 1048577) : Calls Tryz.prog 18 #[v] w (Codes (codes l) w) := by
  obtain ⟨fa, fc, rfl, hlc, hcm, ha⟩ := h.slice
  unfold maxLen at hcm
  obtain ⟨n, hn⟩ : ∃ n, l.length = n := ⟨_, rfl⟩
  have H := Lib.hid h; clear h
  have HA := Lib.hid ha; clear ha
  have HK := Lib.hid hk; clear hk
  rw [hn] at hlc hlen ⊢
  have HN := Lib.hid hn; clear hn
  obtain ⟨i0, hi, hz0, hz1, hz2⟩ := info_parts Tryz.infoZ
  have HI := Lib.hid hi; clear hi
  have HI0 := Lib.hid hz0; clear hz0
  have HI1 := Lib.hid hz1; clear hz1
  have HI2 := Lib.hid hz2; clear hz2
  go_enter Tryz.func18, Tryz.ntmps18
  go_wp2_with (at_make; refine wpList_make_own _ rfl _ _ 24 rfl w.heap.size 81 i0 _ 4 Tryz.underlying24 HI.out HI0.out HI1.out _ _ _ n rfl rfl rfl ?b2 ?b3 (Nat.le_refl _) ?_)
  case b2 => rw [HI2.out]; omega
  case b3 => unfold maxLen; omega
  intro w1 hown hgrow
  have hf : Snp w1 w.heap.size (.slice (some ⟨w.heap.size, 0, none⟩) 0 n) [] := hown
  have hb : Kept [] w w1 := (Kept.refl _ _).grown hgrow (by simp)
  clear hown hgrow
  obtain ⟨B, hB⟩ : ∃ B, w.heap.size = B := ⟨_, rfl⟩
  rw [hB] at hf
  have HBB := Lib.hid hB
  have HF := Lib.hid hf; clear hf
  have HB := Lib.hid hb; clear hb
  rw [hB]
  clear hB
  go_wp2
  go_loopw [3, 4] (fun v i wr => ∃ m : Nat, m ≤ n ∧ i = .int .i64 m ∧ (∃ d, Snp wr B v d ∧ d = codes (l.take m)) ∧ Kept [] w wr) (fun _ i _ => n - (intOf i).toNat)
  case atStart => exact ⟨0, Nat.zero_le _, rfl, ⟨[], HF.out, rfl⟩, HB.out⟩
  case round =>
    clear HF HB
    obtain ⟨m, hm, rfl, ⟨d, hf, hl⟩, hb⟩ := hrel
    have HB := Lib.hid hb; clear hb
    have hln : d.length = m := by have := congrArg List.length hl; simp only [codes, List.length_map, List.length_take] at this; have := HN.out; omega
    have HLN := Lib.hid hln; clear hln
    have HL := Lib.hid hl; clear hl
    obtain ⟨va, vc, hv, -⟩ := OwnR.slice hf
    rw [HLN.out] at hv
    subst hv
    have HF := Lib.hid hf; clear hf
    by_cases hlt : m < n
    · obtain ⟨g, rfl, hg1, hg2⟩ := HA.out m (by rw [HN.out]; exact hlt)
      obtain ⟨⟨ca, cl, cc, zk, zb, zi⟩, hz, c0, c1, c2, c3⟩ := (H.out.kept HB.out (by simp)).cells m (by rw [HN.out]; exact hlt)
      dsimp only at c0 c1 c2 c3
      have hzk := HK.out.at hz
      dsimp only at hzk
      have HZK := Lib.hid hzk; clear hzk
      have hcd : d ++ [⟨zk, zb, zi, cl⟩] = codes (l.take (m + 1)) := by
        rw [take_snoc hz, HL.out]
        simp [codes, FE.snap]
      have HCD := Lib.hid hcd; clear hcd hz
      have ho : ∀ o', OwnR 81 4 ZE.cells (wr.drew.alloc o') B (.slice va m vc) d := fun o' => HF.out.kept0 (((Kept.refl [] wr).drew).alloc o')
      have HO := Lib.hid ho; clear ho
      have ownlt : ∀ q, (Value.slice va m vc).ownBlock = some q → w.heap.size ≤ q := fun q hq => by have := (OwnR.blk HF.out hq).1; rw [HBB.out]; exact this
      have OWN := Lib.hid ownlt; clear ownlt
      have hbl : ∀ o', B ≤ (wr.drew.alloc o').heap.size := fun o' => by
        have h1 := HBB.out
        have h2 := HB.out.size
        have h4 : (wr.drew.alloc o').heap.size = wr.heap.size + 1 := by simp
        omega
      have HBL := Lib.hid hbl; clear hbl
      have bne : g ∉ (Value.slice va m vc).ownBlock.toList := fun hm => by
        simp at hm
        have := OWN.out g hm
        omega
      have BNE := Lib.hid bne; clear bne
      have H3 : Hid (d.length + 1 ≤ maxLen) := Lib.hid (by rw [HLN.out]; unfold maxLen; omega)
      have H4 : Hid ((d.length + 1) * 32 ≤ 140737488355328) := Lib.hid (by rw [HLN.out]; omega)
      have i1 : (0 : Int) ≤ (m : Int) := by omega
      have i2 : (m : Int) < (n : Int) := by omega
      go_wp2_with fail
      go_region_held3 (fun w' => w'.cell? ⟨g, m * 4, none⟩ = some (.slice ca cl cc) ∧ w'.cell? ⟨g, m * 4 + 1, none⟩ = some (.int .i64 zk) ∧ w'.cell? ⟨g, m * 4 + 2, none⟩ = some (.int .i64 zb) ∧ w'.cell? ⟨g, m * 4 + 3, none⟩ = some (.int .i64 zi))
        (first
          | go_keep
          | (go_split_ands
             refine ⟨?_, ?_, ?_, ?_⟩
             · exact hk3.cell (by go_simp) BNE.out
             · exact hk3.cell (by go_simp) BNE.out
             · exact hk3.cell (by go_simp) BNE.out
             · exact hk3.cell (by go_simp) BNE.out))
        (first
          | (go_at_call 29; refine (zzKindBack_still _ zk HZK.out).mono ?_; rintro e w2 ⟨rfl, rfl⟩)
          | ((refine step_push (T := 81) (c := 4) (enc := ZE.cells) (by rfl) _ _ 24 (by rfl) B i0 _ 32 Tryz.underlying24 HI.out HI0.out HI1.out HI2.out rfl (by decide) ZE.cells_len ZE.one (.slice va m vc) d (by rfl) (HO.out _) wr.heap.size ⟨zk, zb, zi, cl⟩ 1 _ (by rfl) (heap_alloc_new wr.drew _) rfl H3.out H4.out (HBL.out _) ?_; intro v' w3 hown3 hk3)))
      have hkn : Kept [] w w3 := (HB.out.drew.alloc _).then hk3 (fun g hg => by
        simp at hg
        exact Or.inr (OWN.out g hg))
      have HKN := Lib.hid hkn; clear hkn hk3
      have HFN : Hid (Snp w3 B v' (d ++ [⟨zk, zb, zi, cl⟩])) := Lib.hid hown3
      clear hown3
      go_wp2_with fail
      exact ⟨⟨m + 1, by omega, by go_num, ⟨_, HFN.out, HCD.out⟩, HKN.out⟩, by simp [intOf]; omega⟩
    · obtain rfl : m = n := by omega
      go_wp2
      go_ret
      have hd : d = codes l := by rw [HL.out, ← HN.out, List.take_length]
      exact ⟨(va, m, vc), rfl, by rw [← hd, HBB.out]; exact HF.out, HB.out⟩

set_option maxRecDepth 100000 in
set_option maxHeartbeats 8000000 in
theorem zzEnsured_any (w : World) (a : Option Addr) (len cap : Nat) (ds : List ZE) (h : RdZ w a len cap ds) (hlen : len ≤ 1048576) : Calls Tryz.prog 16 #[.slice a len cap] w (Codes (ensE ds) w) := by
  have hle := h.le
  have htop := h.top
  have hdl := h.len
  unfold maxLen at htop
  have HDL := Lib.hid hdl; clear hdl
  have H := Lib.hid h; clear h
  obtain ⟨i0, hi, hz0, hz1, hz2⟩ := info_parts Tryz.infoZ
  have HI := Lib.hid hi; clear hi
  have HI0 := Lib.hid hz0; clear hz0
  have HI1 := Lib.hid hz1; clear hz1
  have HI2 := Lib.hid hz2; clear hz2
  go_enter Tryz.func16, Tryz.ntmps16
  go_wp2_with (at_make; refine wpList_make_own _ rfl _ _ 24 rfl w.heap.size 81 i0 _ 4 Tryz.underlying24 HI.out HI0.out HI1.out _ _ _ (len + 1) rfl rfl (by simp) ?b2 ?b3 (Nat.le_refl _) ?_)
  case b2 => rw [HI2.out]; omega
  case b3 => unfold maxLen; omega
  intro w1 hown hgrow
  have hf : Snp w1 w.heap.size (.slice (some ⟨w.heap.size, 0, none⟩) 0 (len + 1)) [] := hown
  have hb : Kept [] w w1 := (Kept.refl _ _).grown hgrow (by simp)
  clear hown hgrow
  obtain ⟨B, hB⟩ : ∃ B, w.heap.size = B := ⟨_, rfl⟩
  rw [hB] at hf
  have HBB := Lib.hid hB
  have HF := Lib.hid hf; clear hf
  have HB := Lib.hid hb; clear hb
  rw [hB]
  clear hB
  go_wp2
  go_loopw [3, 4] (fun v i wr => ∃ m : Nat, m ≤ len ∧ i = .int .i64 m ∧ Snp wr B v (ds.take m) ∧ Kept [] w wr) (fun _ i _ => len - (intOf i).toNat)
  case atStart => exact ⟨0, Nat.zero_le _, rfl, HF.out, HB.out⟩
  case round =>
    clear HF HB
    obtain ⟨m, hm, rfl, hf, hb⟩ := hrel
    have HB := Lib.hid hb; clear hb
    obtain ⟨d, hl⟩ : ∃ d, ds.take m = d := ⟨_, rfl⟩
    rw [hl] at hf
    have hln : d.length = m := by rw [← hl, List.length_take]; have := HDL.out; omega
    have HLN := Lib.hid hln; clear hln
    have HL := Lib.hid hl; clear hl
    obtain ⟨va, vc, hv, -⟩ := OwnR.slice hf
    rw [HLN.out] at hv
    subst hv
    have HF := Lib.hid hf; clear hf
    have ho : ∀ o', OwnR 81 4 ZE.cells (wr.alloc o') B (.slice va m vc) d := fun o' => HF.out.kept0 ((Kept.refl [] wr).alloc o')
    have HO := Lib.hid ho; clear ho
    have ownlt : ∀ q, (Value.slice va m vc).ownBlock = some q → w.heap.size ≤ q := fun q hq => by have := (OwnR.blk HF.out hq).1; rw [HBB.out]; exact this
    have OWN := Lib.hid ownlt; clear ownlt
    have hbl : ∀ o', B ≤ (wr.alloc o').heap.size := fun o' => by
      have h1 := HBB.out
      have h2 := HB.out.size
      have h4 : (wr.alloc o').heap.size = wr.heap.size + 1 := by simp
      omega
    have HBL := Lib.hid hbl; clear hbl
    have H3 : Hid (d.length + 1 ≤ maxLen) := Lib.hid (by rw [HLN.out]; unfold maxLen; omega)
    have H4 : Hid ((d.length + 1) * 32 ≤ 140737488355328) := Lib.hid (by rw [HLN.out]; omega)
    by_cases hlt : m < len
    · obtain ⟨b, o, ⟨zk, zb, zi, zc⟩, hz, rfl, hbl, c0, c1, c2, c3⟩ := (H.out.kept0 HB.out).cells m hlt
      dsimp only at c0 c1 c2 c3
      have hcd : d ++ [⟨zk, zb, zi, zc⟩] = ds.take (m + 1) := by rw [take_snoc hz, HL.out]
      have HCD := Lib.hid hcd; clear hcd hz
      go_wp2_with (first
        | (at_builtin; refine wpList_push (T := 81) (c := 4) (enc := ZE.cells) rfl _ _ 24 rfl B i0 _ 32 Tryz.underlying24 HI.out HI0.out HI1.out HI2.out rfl (by decide) ZE.cells_len ZE.one (.slice va m vc) d rfl (HO.out _) wr.heap.size ⟨zk, zb, zi, zc⟩ 1 _ rfl (heap_alloc_new wr _) rfl H3.out H4.out (HBL.out _) ?_)
        | fail)
      intro v' w3 hown3 hk3
      have hkn : Kept [] w w3 := (HB.out.alloc _).then hk3 (fun g hg => by
        simp at hg
        exact Or.inr (OWN.out g hg))
      have HKN := Lib.hid hkn; clear hkn hk3
      have HFN : Hid (Snp w3 B v' (ds.take (m + 1))) := Lib.hid (by rw [← HCD.out]; exact hown3)
      clear hown3
      go_wp2_with fail
      exact ⟨⟨m + 1, by omega, by go_num, HFN.out, HKN.out⟩, by simp [intOf]; omega⟩
    · obtain rfl : m = len := by omega
      have hd : d = ds := by rw [← HL.out, ← HDL.out, List.take_length]
      subst hd
      go_wp2_with fail
      refine (zzEndsClean_any _ _ _ _ d (H.out.kept0 HB.out)).mono ?_
      rintro e w2 ⟨rfl, rfl⟩
      cases hcl : endsC d
      · have HCL := Lib.hid hcl; clear hcl
        go_wp2_with (first
          | (at_builtin; refine wpList_push (T := 81) (c := 4) (enc := ZE.cells) rfl _ _ 24 rfl B i0 _ 32 Tryz.underlying24 HI.out HI0.out HI1.out HI2.out rfl (by decide) ZE.cells_len ZE.one (.slice va m vc) d rfl (HO.out _) w2.heap.size ⟨0, 0, 0, 0⟩ 1 _ rfl (heap_alloc_new w2 _) rfl H3.out H4.out (HBL.out _) ?_)
          | fail)
        intro v' w3 hown3 hk3
        have hkn : Kept [] w w3 := (HB.out.alloc _).then hk3 (fun g hg => by
          simp at hg
          exact Or.inr (OWN.out g hg))
        obtain ⟨ra, rc, hv, -⟩ := OwnR.slice hown3
        subst hv
        have HKN := Lib.hid hkn; clear hkn hk3
        have HFN := Lib.hid hown3; clear hown3
        go_wp2_with fail
        go_ret
        refine ⟨(ra, _, rc), rfl, ?_, HKN.out⟩
        unfold ensE
        rw [HCL.out, HBB.out]
        exact HFN.out
      · have HCL := Lib.hid hcl; clear hcl
        go_wp2_with fail
        go_ret
        refine ⟨(va, m, vc), rfl, ?_, HB.out⟩
        unfold ensE
        rw [HCL.out, HBB.out]
        exact HF.out
end Go.Proofs.YtgdipdbmllkckaaGreatFmt
