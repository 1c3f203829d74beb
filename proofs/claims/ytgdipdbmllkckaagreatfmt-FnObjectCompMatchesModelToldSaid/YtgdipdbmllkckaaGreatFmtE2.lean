/- The contract of n008_142's zzBuild: the fodder that codes tell. -/
import Derived.Test.YtgdipdbmllkckaaGreatFmtP1
import Derived.Test.YtgdipdbmllkckaaGreatFmtOwn
import Derived.WalkSpells
import Derived.StillTailTactics
import Derived.Deep.AppendLies
namespace Go.Proofs.YtgdipdbmllkckaaGreatFmt
attribute [local go_sem ↓] Go.wp_at_zero Go.wp_at_succ
open Go.ChangeShapes Go.WideShapes Go.ChangeAt Go.RowKit

theorem zzKind_still (w : World) (k : Int) (hk : k = 0 ∨ k = 1 ∨ k = 2) : Calls Tryz.prog 30 #[.int .i64 k] w fun e w' => e = .returned (.int .i64 k) ∧ w' = w := zzKind_any w k hk
theorem Tryz.infoStr : (Tryz.prog.info? 9).map (fun i => (i.zero, i.size, i.bytes)) = some (some (.string ByteArray.empty), 1, 16) := by kernel_rfl

set_option maxRecDepth 100000 in
set_option maxHeartbeats 8000000 in
theorem zzBuild_any (w : World) (a : Option Addr) (len cap : Nat) (ds : List ZE) (h : RdZ w a len cap ds) (hg : GoodL ds) (hlen : len ≤ 1048576) :
    Calls Tryz.prog 23 #[.slice a len cap] w fun e w' => ∃ v l, e = .returned v ∧ Fod w' w.heap.size v l ∧ codes l = ds ∧ Kept [] w w' := by
  have heq := fun (w : World) (a : Option Addr) (l c : Nat) => Lib.run_eql_slice_nil (P := Tryz.prog) w 24 81 a l c 0 0 Tryz.underlying24
  cases a with
  | none =>
    obtain ⟨rfl, rfl⟩ := h.nil'
    clear h hg
    go_enter Tryz.func23, Tryz.ntmps23
    go_wp2
    go_ret
    exact ⟨.slice none 0 0, [], rfl, fod_nil _ _, rfl, Kept.refl _ _⟩
  | some x =>
  have hle := h.le
  have htop := h.top
  have hdl := h.len
  unfold maxLen at htop
  have HDL := Lib.hid hdl; clear hdl
  have H := Lib.hid h; clear h
  have HG := Lib.hid hg; clear hg
  obtain ⟨i0, hi, hz0, hz1, hz2⟩ := info_parts Tryz.infoFE
  have HI := Lib.hid hi; clear hi
  have HI0 := Lib.hid hz0; clear hz0
  have HI1 := Lib.hid hz1; clear hz1
  have HI2 := Lib.hid hz2; clear hz2
  go_enter Tryz.func23, Tryz.ntmps23
  go_wp2_with (at_make; refine wpList_make_own _ rfl _ _ 43 rfl w.heap.size 98 i0 _ 4 Tryz.underlying43 HI.out HI0.out HI1.out _ _ _ len rfl rfl rfl ?b2 ?b3 (Nat.le_refl _) ?_)
  case b2 => rw [HI2.out]; omega
  case b3 => unfold maxLen; omega
  intro w1 hown hgrow
  have hf : Fod w1 w.heap.size (.slice (some ⟨w.heap.size, 0, none⟩) 0 len) [] := hown
  have hb : Kept [] w w1 := (Kept.refl _ _).grown hgrow (by simp)
  clear hown hgrow heq
  obtain ⟨B, hB⟩ : ∃ B, w.heap.size = B := ⟨_, rfl⟩
  rw [hB] at hf ⊢
  have HBB := Lib.hid hB; clear hB
  have HF := Lib.hid hf; clear hf
  have HB := Lib.hid hb; clear hb
  go_wp2
  go_loopw [3, 4] (fun v i wr => ∃ m : Nat, m ≤ len ∧ i = .int .i64 m ∧ (∃ l, Fod wr B v l ∧ codes l = ds.take m) ∧ Kept [] w wr) (fun _ i _ => len - (intOf i).toNat)
  case atStart => exact ⟨0, Nat.zero_le _, rfl, ⟨[], HF.out, rfl⟩, HB.out⟩
  case round =>
    clear HF HB
    obtain ⟨m, hm, rfl, ⟨l, hf, hl⟩, hb⟩ := hrel
    have HB := Lib.hid hb; clear hb
    have hln : l.length = m := by have := congrArg List.length hl; simp only [codes, List.length_map, List.length_take] at this; have := HDL.out; omega
    have HLN := Lib.hid hln; clear hln
    have HL := Lib.hid hl; clear hl
    obtain ⟨va, vc, hv, -⟩ := hf.slice
    rw [HLN.out] at hv
    subst hv
    have HF := Lib.hid hf; clear hf
    obtain ⟨wo, rfl⟩ : ∃ wo : World, wo = wr := ⟨_, rfl⟩
    by_cases hlt : m < len
    · obtain ⟨b, o, _, _, hx0, hb0, _⟩ := H.out.cells m hlt
      obtain rfl : x = ⟨b, o, none⟩ := by simpa using hx0
      have HB0 := Lib.hid hb0; clear hb0 hx0
      obtain ⟨b', o', ⟨zk, zb, zi, zc⟩, hz, hx, hbl, c0, c1, c2, c3⟩ := (H.out.kept0 HB.out).cells m hlt
      obtain ⟨rfl, rfl⟩ : b = b' ∧ o = o' := by simpa using hx
      clear hx
      dsimp only at c0 c1 c2 c3
      obtain ⟨hk, g2, g3, g4, g5⟩ := HG.out.at hz
      dsimp only at hk g2 g3 g4 g5
      obtain ⟨n, rfl⟩ : ∃ n : Nat, zc = n := ⟨zc.toNat, by omega⟩
      have hn4 : n ≤ 4096 := by omega
      have HK := Lib.hid hk; clear hk
      have HZ := Lib.hid hz; clear hz
      obtain ⟨s0, hs, hs0, hs1, hs2⟩ := info_parts Tryz.infoStr
      go_wp2_with (at_make; refine wpList_make_full _ rfl _ _ 95 rfl wo.heap.size 9 s0 _ 1 Tryz.underlying95 hs hs0 hs1 _ _ _ _ n rfl rfl rfl rfl ?b2 ?b3 (Nat.le_refl _) ?_)
      case b2 => rw [hs2]; omega
      case b3 => unfold maxLen; omega
      intro w2 hown hgrow
      have hk2 : Kept [] wo w2 := (Kept.refl _ _).grown hgrow (by simp)
      obtain ⟨C, hC⟩ : ∃ C, wo.heap.size = C := ⟨_, rfl⟩
      rw [hC] at hown ⊢
      have HC := Lib.hid hC; clear hC
      have hrow : ∃ xs : List Value, w2.ownsRow C 9 1 (.slice (some ⟨C, 0, none⟩) n n) n xs := ⟨_, by simpa using hown⟩
      have HR := Lib.hid hrow; clear hrow hown hgrow hs hs0 hs1 hs2
      have HK2 := Lib.hid hk2; clear hk2
      go_wp2
      go_loopw [6] (fun i wr => ∃ j : Nat, j ≤ n ∧ i = .int .i64 j ∧ (∃ xs : List Value, wr.ownsRow C 9 1 (.slice (some ⟨C, 0, none⟩) n n) n xs) ∧ Kept [] wo wr) (fun i _ => n - (intOf i).toNat)
      case atStart => exact ⟨0, Nat.zero_le _, rfl, HR.out, HK2.out⟩
      case round =>
        clear HR HK2
        obtain ⟨j, hj, rfl, ⟨xs, hxs⟩, hk⟩ := hrel
        have HKK := Lib.hid hk; clear hk
        by_cases hjn : j < n
        · have hxl : xs.length = n * 1 := hxs.1
          have q := World.ownsRow.cells hxs (g := C) rfl j xs[j] (List.getElem?_eq_getElem (by omega))
          rw [add_off, Nat.zero_add] at q
          have fq := World.ownsRow.frozenAt hxs j
          have hst := (World.ownsRow.stored hxs j (.string ⟨#[35, 32, 99]⟩)).1
          have HST := Lib.hid hst; clear hst
          have HX := Lib.hid hxs; clear hxs
          obtain ⟨u, hu⟩ : ∃ u, xs[j] = u := ⟨_, rfl⟩
          rw [hu] at q
          clear hu
          have hks : Kept [] wo (wr.setCell ⟨C, j, none⟩ (.string ⟨#[35, 32, 99]⟩)) := HKK.out.setCell (Or.inr (by rw [HC.out]; exact Nat.le_refl _)) _
          have HKS := Lib.hid hks; clear hks
          go_wp2
          go_roundw
          case rel => exact ⟨j + 1, by omega, by go_num, ⟨_, HST.out⟩, HKS.out⟩
          case measure => simp [intOf]; omega
        · obtain rfl : j = n := by omega
          clear hxs
          have e0 := HKK.out.cell c0 (by simp)
          have e1 := HKK.out.cell c1 (by simp)
          have e2 := HKK.out.cell c2 (by simp)
          clear c0 c1 c2 c3
          have ho : ∀ o', OwnR 98 4 FE.cells (wr.drew.alloc o') B (.slice va m vc) l := fun o' => (HF.out.kept ((HKK.out.drew).alloc o') (by simp)).own
          have HO := Lib.hid ho; clear ho
          have hcd : codes (l ++ [⟨some ⟨C, 0, none⟩, j, j, zk, zb, zi⟩]) = ds.take (m + 1) := by
            rw [take_snoc HZ.out, ← HL.out]
            simp [codes, FE.snap]
          have HCD := Lib.hid hcd; clear hcd
          have ownlt : ∀ g, (Value.slice va m vc).ownBlock = some g → w.heap.size ≤ g := fun g hg => by have := (World.ownsRow.lt HF.out g hg).1; rw [HBB.out]; exact this
          have OWN := Lib.hid ownlt; clear ownlt
          have hbl : ∀ o', B ≤ (wr.drew.alloc o').heap.size := fun o' => by
            have h1 := HBB.out
            have h2 := HB.out.size
            have h3 := HKK.out.size
            have h4 : (wr.drew.alloc o').heap.size = wr.heap.size + 1 := by simp
            omega
          have HBL := Lib.hid hbl; clear hbl
          have bne : b ∉ (Value.slice va m vc).ownBlock.toList := fun hm => by
            simp at hm
            have := OWN.out b hm
            have := HB0.out
            omega
          have BNE := Lib.hid bne; clear bne
          have hc3 : l.length + 1 ≤ maxLen := by rw [HLN.out]; unfold maxLen; omega
          have hc4 : (l.length + 1) * 48 ≤ 140737488355328 := by rw [HLN.out]; omega
          have H3 := Lib.hid hc3
          have H4 := Lib.hid hc4
          clear hc3 hc4
          have i1 : (0 : Int) ≤ (m : Int) := by omega
          have i2 : (m : Int) < (len : Int) := by omega
          go_wp2_with fail
          go_region_held3 (fun w' => w'.cell? ⟨b, o + m * 4, none⟩ = some (.int .i64 zk) ∧ w'.cell? ⟨b, o + m * 4 + 1, none⟩ = some (.int .i64 zb) ∧ w'.cell? ⟨b, o + m * 4 + 2, none⟩ = some (.int .i64 zi))
            (first
              | go_keep
              | (go_split_ands
                 refine ⟨?_, ?_, ?_⟩
                 · exact hk3.cell (by go_simp) BNE.out
                 · exact hk3.cell (by go_simp) BNE.out
                 · exact hk3.cell (by go_simp) BNE.out))
            (first
              | (go_at_call 30; refine (zzKind_still _ zk HK.out).mono ?_; rintro e w2 ⟨rfl, rfl⟩)
              | ((refine step_push (T := 98) (c := 4) (enc := FE.cells) (by rfl) _ _ 43 (by rfl) B i0 _ 48 Tryz.underlying43 HI.out HI0.out HI1.out HI2.out rfl (by decide) FE.cells_len FE.one (.slice va m vc) l (by rfl) (HO.out _) wr.heap.size ⟨some ⟨C, 0, none⟩, j, j, zk, zb, zi⟩ 1 _ (by rfl) (heap_alloc_new wr.drew _) rfl H3.out H4.out (HBL.out _) ?_; intro v' w3 hown3 hk3)))
          have hkn : Kept [] w w3 := ((HB.out.trans HKK.out).drew.alloc _).then hk3 (fun g hg => by
            simp at hg
            exact Or.inr (OWN.out g hg))
          have HKN := Lib.hid hkn; clear hkn hk3
          have HFN := Lib.hid hown3.fod; clear hown3
          go_wp2_with fail
          exact ⟨⟨m + 1, by omega, by go_num, ⟨_, HFN.out, HCD.out⟩, HKN.out⟩, by simp [intOf]; omega⟩
    · obtain rfl : m = len := by omega
      go_wp2
      go_ret
      rw [HBB.out]
      refine ⟨_, l, rfl, HF.out, ?_, HB.out⟩
      rw [HL.out, ← HDL.out, List.take_length]
end Go.Proofs.YtgdipdbmllkckaaGreatFmt
