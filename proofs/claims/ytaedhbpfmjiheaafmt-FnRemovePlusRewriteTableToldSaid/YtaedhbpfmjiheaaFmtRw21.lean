/- A walk of the law FnRemovePlusRewriteTable: left kind 2, right kind 1. -/
import Derived.Test.YtaedhbpfmjiheaaFmtRvN
namespace Go.Proofs.YtaedhbpfmjiheaaFmt
open Go.ChangeShapes Go.WideShapes Go.ChangeAt Go.RowKit

set_option maxRecDepth 100000 in
set_option maxHeartbeats 16000000 in
theorem core_21 (op : Int) (n3 n4 n5 : Nat) (k6 k7 : Int) (b3 : n3 ≤ 4096) (b4 : n4 ≤ 4096) (b5 : n5 ≤ 4096) (r6 : 0 ≤ k6 ∧ k6 ≤ 2) (r7 : 0 ≤ k7 ∧ k7 ≤ 2) (w : World) :
    Calls Tryf.prog 3 #[.int .i64 op, .int .i64 2, .int .i64 1, .int .i64 (n3 : Int), .int .i64 (n4 : Int), .int .i64 (n5 : Int), .int .i64 k6, .int .i64 k7] w fun e w' => e = .returned (.bool true) ∧ Below w.heap.size w w' := by
  obtain ⟨g6, g6'⟩ := r6
  obtain ⟨g7, g7'⟩ := r7
  have a3 : (0 : Int) ≤ (n3 : Int) := by omega
  have a4 : (0 : Int) ≤ (n4 : Int) := by omega
  have a5 : (0 : Int) ≤ (n5 : Int) := by omega
  have b3' : (n3 : Int) ≤ 4096 := by omega
  have b4' : (n4 : Int) ≤ 4096 := by omega
  have b5' : (n5 : Int) ≤ 4096 := by omega
  go_enter Tryf.func3, Tryf.ntmps3
  go_wp2_with fail
  refine (zzLeft_2 _).mono ?_
  rintro e wa ⟨xl, rfl, hl, ka⟩
  have HLK := Lib.hid hl; clear hl
  have KA := Lib.hid ka; clear ka
  go_wp2_with fail
  refine (zzFodder_any _ n5 0 k7 b5).mono ?_
  rintro e wb ⟨va0, la, rfl, ha, bua, kb⟩
  obtain ⟨aa, an, ac, rfl⟩ := ha.isSlice
  obtain rfl : n5 = an := by rw [← bua.len]; exact ha.len.symm
  have HA := Lib.hid ha; clear ha
  have BUA := Lib.hid bua; clear bua
  have KB := Lib.hid kb; clear kb
  go_wp2_with (first | (refine wpList_build_to rfl 41 _ rfl (nbA (.slice aa n5 ac)) (by show Tryf.prog.built 41 [_] = _; exact built_nb _ _ _) ?_) | (refine wpList_build_to rfl 47 _ rfl #[.slice aa n5 ac, .pointer none, .slice none 0 0, .pointer none, .string ⟨#[]⟩, .int .i64 0, .int .i64 0, .int .i64 0, .int .i64 0] (by show Tryf.prog.built 47 [_] = _; exact built_null _ _ _) ?_))
  obtain ⟨wc, hwc⟩ : ∃ wc, wb.alloc (.cells #[.slice aa n5 ac, .pointer none, .slice none 0 0, .pointer none, .string ⟨#[]⟩, .int .i64 0, .int .i64 0, .int .i64 0, .int .i64 0] 47) = wc := ⟨_, rfl⟩
  have xob : wc.heap[wb.heap.size]? = some (.cells #[.slice aa n5 ac, .pointer none, .slice none 0 0, .pointer none, .string ⟨#[]⟩, .int .i64 0, .int .i64 0, .int .i64 0, .int .i64 0] 47 (0, 0)) := by rw [← hwc]; exact heap_alloc_new wb _
  have kc : Kept [] wb wc := hwc ▸ (Kept.refl _ _).alloc _
  have XOB := Lib.hid xob; have KC := Lib.hid kc; clear xob kc
  rw [hwc]
  clear hwc
  refine (zzFodder_any _ n3 (-1) 0 b3).mono ?_
  rintro e wd ⟨vf0, lf, rfl, hf, buf, kd⟩
  obtain ⟨fa, fn, fc, rfl⟩ := hf.isSlice
  obtain rfl : n3 = fn := by rw [← buf.len]; exact hf.len.symm
  have HF := Lib.hid hf; clear hf buf
  have KD := Lib.hid kd; clear kd
  go_wp2_with (first | (refine wpList_build_to rfl 41 _ rfl (nbA (.slice fa n3 fc)) (by show Tryf.prog.built 41 [_] = _; exact built_nb _ _ _) ?_) | fail)
  refine (zzFodder_at _ n4 _ k6 b4 (by first | rfl | (unfold wrap64; omega))).mono ?_
  rintro e wf ⟨vb0, lb, rfl, hb, bub, kf⟩
  obtain ⟨ba, bn, bc, rfl⟩ := hb.isSlice
  obtain rfl : n4 = bn := by rw [← bub.len]; exact hb.len.symm
  have HB := Lib.hid hb; clear hb
  have BUB := Lib.hid bub; clear bub
  have KF := Lib.hid kf; clear kf
  go_wp2_with (first | (refine wpList_build_to rfl 54 _ rfl #[.iface 29 (.pointer (some ⟨wb.heap.size, 0, none⟩)), .iface 78 (.pointer (some ⟨xl, 0, none⟩)), .slice ba n4 bc, .slice fa n3 fc, .pointer none, .slice none 0 0, .pointer none, .string ⟨#[]⟩, .int .i64 0, .int .i64 0, .int .i64 0, .int .i64 0, .int .i64 op] (by show Tryf.prog.built 54 [_, _, _, _, _] = _; exact built_bin _ _ _ _ _ _ _ _ _ _ _) ?_) | fail)
  obtain ⟨W, hW⟩ : ∃ W, ((wf.alloc (.cells #[.iface 29 (.pointer (some ⟨wb.heap.size, 0, none⟩)), .iface 78 (.pointer (some ⟨xl, 0, none⟩)), .slice ba n4 bc, .slice fa n3 fc, .pointer none, .slice none 0 0, .pointer none, .string ⟨#[]⟩, .int .i64 0, .int .i64 0, .int .i64 0, .int .i64 0, .int .i64 op] 54)).alloc (.cells #[.iface 51 (.pointer (some ⟨wf.heap.size, 0, none⟩))] 23)).alloc (.cells #[] 59) = W := ⟨_, rfl⟩
  obtain ⟨hxb, hnb, hpb⟩ : W.heap[wf.heap.size]? = some (.cells #[.iface 29 (.pointer (some ⟨wb.heap.size, 0, none⟩)), .iface 78 (.pointer (some ⟨xl, 0, none⟩)), .slice ba n4 bc, .slice fa n3 fc, .pointer none, .slice none 0 0, .pointer none, .string ⟨#[]⟩, .int .i64 0, .int .i64 0, .int .i64 0, .int .i64 0, .int .i64 op] 54 (0, 0)) ∧ W.heap[wf.heap.size + 1]? = some (.cells #[.iface 51 (.pointer (some ⟨wf.heap.size, 0, none⟩))] 23 (0, 0)) ∧ W.heap[wf.heap.size + 1 + 1]? = some (.cells #[] 59 (0, 0)) := by rw [← hW]; exact three _ _ _
  have kW : Kept [] wf W := by rw [← hW]; exact (((Kept.refl _ _).alloc _).alloc _).alloc _
  rw [hW]
  clear hW
  have KW := Lib.hid kW; clear kW
  have kbW : Kept [] wb W := ((KC.out.trans KD.out).trans KF.out).trans KW.out
  have hpb : IsPass W (wf.heap.size + 1 + 1) := hpb
  have sA := KB.out.size
  have sB := KC.out.size
  have sD := KD.out.size
  have sF := KF.out.size
  have sob : wb.heap.size < wc.heap.size := (Array.getElem?_eq_some_iff.1 XOB.out).1
  have xobW := (((KD.out.trans KF.out).trans KW.out)).heap XOB.out (by simp)
  have hlW := HLK.out.kept (KB.out.trans kbW) (by simp)
  have haW : Fod W wa.heap.size (.slice aa n5 ac) la := HA.out.kept kbW (by simp)
  have hfW : Fod W wa.heap.size (.slice fa n3 fc) lf := (HF.out.kept (KF.out.trans KW.out) (by simp)).low (by omega)
  have hbW : Fod W wa.heap.size (.slice ba n4 bc) lb := (HB.out.kept KW.out (by simp)).low (by omega)
  have HAW := Lib.hid haW; have HBW := Lib.hid hbW
  have KWw := Lib.hid ((KA.out.trans KB.out).trans kbW)
  have tb := fun w => ta_yes_Binary (.pointer (some ⟨wf.heap.size, 0, none⟩)) 23 w
  have q1 := fun w => neqI w 78 79 ⟨xl, 0, none⟩ (by kernel_rfl) (by kernel_rfl) (by kernel_rfl)
  have q2 := fun w => neqI w 29 47 ⟨wb.heap.size, 0, none⟩ (by kernel_rfl) (by kernel_rfl) (by kernel_rfl)
  have q3 := fun w => neqP w 51 54 ⟨wf.heap.size, 0, none⟩ (by kernel_rfl) (by kernel_rfl)
  have hbin : Bin W wa.heap.size wf.heap.size 78 xl 29 wb.heap.size op (.slice ba n4 bc) lb (.slice fa n3 fc) lf := ⟨cell_of_block hxb 0, cell_of_block hxb 1, cell_of_block hxb 2, cell_of_block hxb 3, cell_of_block hxb 12, frozen_of_block hxb 2, frozen_of_block hxb 3, hbW, hfW⟩
  have hrk : RK W wa.heap.size 29 wb.heap.size (.slice aa n5 ac) la := ⟨haW, Or.inr (Or.inl ⟨rfl, cell_of_block xobW 0, frozen_of_block xobW 0⟩)⟩
  have hown := own_keep hbin hpb .nilIface (cell_of_block hnb 0) hlW hrk (fun h => by rcases h.1 with h | h <;> simp at h)
  have HOWN := Lib.hid hown; have HXB := Lib.hid hxb; have HNB := Lib.hid hnb; have XOBW := Lib.hid xobW
  clear hown hbin hrk hxb hnb xobW hlW haW hfW hbW kbW hpb sA sB sD sF sob
  refine HOWN.out.mono ?_
  rintro e w5 ⟨rfl, k5⟩
  have n0 : w5.cell? ⟨wf.heap.size + 1, 0, none⟩ = some (.iface 51 (.pointer (some ⟨wf.heap.size, 0, none⟩))) := k5.cell (cell_of_block HNB.out 0) (by simp)
  have e0 : w5.cell? ⟨wf.heap.size, 0, none⟩ = some (.iface 29 (.pointer (some ⟨wb.heap.size, 0, none⟩))) := k5.cell (cell_of_block HXB.out 0) (by simp)
  have e1 : w5.cell? ⟨wf.heap.size, 1, none⟩ = some (.iface 78 (.pointer (some ⟨xl, 0, none⟩))) := k5.cell (cell_of_block HXB.out 1) (by simp)
  have e2 : w5.cell? ⟨wf.heap.size, 2, none⟩ = some (.slice ba n4 bc) := k5.cell (cell_of_block HXB.out 2) (by simp)
  have e3 : w5.cell? ⟨wf.heap.size, 3, none⟩ = some (.slice fa n3 fc) := k5.cell (cell_of_block HXB.out 3) (by simp)
  have e12 : w5.cell? ⟨wf.heap.size, 12, none⟩ = some (.int .i64 op) := k5.cell (cell_of_block HXB.out 12) (by simp)
  have er : w5.cell? ⟨wb.heap.size, 0, none⟩ = some (.slice aa n5 ac) := k5.cell (cell_of_block XOBW.out 0) (by simp)
  have HB5 := Lib.hid (HBW.out.kept k5 (by simp)); have HA5 := Lib.hid (HAW.out.kept k5 (by simp))
  have K5 := Lib.hid (KWw.out.trans k5); clear k5
  go_wp2_with fail
  refine (zzBlanks_bu HB5.out BUB.out b4 (fun h => ⟨n4 - 1, by omega, by omega⟩) ⟨g6, g6'⟩).mono ?_
  rintro e w6 ⟨rfl, rfl⟩
  go_wp2_with fail
  refine (zzBuiltBlanks_any _ n4 k6 b4).mono ?_
  rintro e w7 ⟨rfl, rfl⟩
  go_wp2_with fail
  refine (zzComments_bu HB5.out BUB.out b4 (fun h => ⟨n4 - 1, by omega, by omega⟩) ⟨g6, g6'⟩).mono ?_
  rintro e w6 ⟨rfl, rfl⟩
  go_wp2_with fail
  refine (zzBuiltComments_any _ n4 k6 b4).mono ?_
  rintro e w7 ⟨rfl, rfl⟩
  go_wp2_with fail
  refine (zzBlanks_bu HA5.out BUA.out b5 (fun h => ⟨0, h, rfl⟩) ⟨g7, g7'⟩).mono ?_
  rintro e w6 ⟨rfl, rfl⟩
  go_wp2_with fail
  refine (zzBuiltBlanks_any _ n5 k7 b5).mono ?_
  rintro e w7 ⟨rfl, rfl⟩
  go_wp2_with fail
  refine (zzComments_bu HA5.out BUA.out b5 (fun h => ⟨0, h, rfl⟩) ⟨g7, g7'⟩).mono ?_
  rintro e w6 ⟨rfl, rfl⟩
  go_wp2_with fail
  refine (zzBuiltComments_any _ n5 k7 b5).mono ?_
  rintro e w7 ⟨rfl, rfl⟩
  go_wp2_with fail
  go_ret
  exact ⟨by first | rfl | simp, K5.out.below (Nat.le_refl _) (by simp)⟩
end Go.Proofs.YtaedhbpfmjiheaaFmt
