/- A walk of the law FnRemovePlusRewriteTable: left kind 0, right kind 0, rewritten. -/
import Derived.Test.YtaedhbpfmjiheaaFmtRvN
namespace Go.Proofs.YtaedhbpfmjiheaaFmt
open Go.ChangeShapes Go.WideShapes Go.ChangeAt Go.RowKit

set_option maxRecDepth 100000 in
set_option maxHeartbeats 16000000 in
theorem core_00r (n3 n4 n5 : Nat) (k6 k7 : Int) (b3 : n3 ≤ 4096) (b4 : n4 ≤ 4096) (b5 : n5 ≤ 4096) (r6 : 0 ≤ k6 ∧ k6 ≤ 2) (r7 : 0 ≤ k7 ∧ k7 ≤ 2) (w : World) :
    Calls Tryf.prog 3 #[.int .i64 3, .int .i64 0, .int .i64 0, .int .i64 (n3 : Int), .int .i64 (n4 : Int), .int .i64 (n5 : Int), .int .i64 k6, .int .i64 k7] w fun e w' => e = .returned (.bool true) ∧ Below w.heap.size w w' := by
  obtain ⟨g6, g6'⟩ := r6
  obtain ⟨g7, g7'⟩ := r7
  have a3 : (0 : Int) ≤ (n3 : Int) := by omega
  have a4 : (0 : Int) ≤ (n4 : Int) := by omega
  have a5 : (0 : Int) ≤ (n5 : Int) := by omega
  have b3' : (n3 : Int) ≤ 4096 := by omega
  have b4' : (n4 : Int) ≤ 4096 := by omega
  have b5' : (n5 : Int) ≤ 4096 := by omega
  go_enter Tryf.func3, Tryf.ntmps3
  go_wp2_with fail
  refine (zzLeft_0 _).mono ?_
  rintro e wa ⟨xl, rfl, hl, ka⟩
  have HLK := Lib.hid hl; clear hl
  have KA := Lib.hid ka; clear ka
  go_wp2_with fail
  refine (zzFodder_any _ n5 0 k7 b5).mono ?_
  rintro e wb ⟨va0, la, rfl, ha, bua, kb⟩
  obtain ⟨aa, an, ac, rfl⟩ := ha.isSlice
  obtain rfl : n5 = an := by rw [← bua.len]; exact ha.len.symm
  have HA := Lib.hid ha; clear ha
  have BUA := Lib.hid bua; clear bua
  have KB := Lib.hid kb; clear kb
  go_wp2_with (first | (refine wpList_build_to rfl 41 _ rfl (nbA (.slice aa n5 ac)) (by show Tryf.prog.built 41 [_] = _; exact built_nb _ _ _) ?_) | (refine wpList_build_to rfl 45 _ rfl #[.slice none 0 0, .slice none 0 0, .slice aa n5 ac, .pointer none, .slice none 0 0, .pointer none, .string ⟨#[]⟩, .int .i64 0, .int .i64 0, .int .i64 0, .int .i64 0, .bool false] (by show Tryf.prog.built 45 [_] = _; exact built_obj _ _ _) ?_))
  obtain ⟨wc, hwc⟩ : ∃ wc, wb.alloc (.cells #[.slice none 0 0, .slice none 0 0, .slice aa n5 ac, .pointer none, .slice none 0 0, .pointer none, .string ⟨#[]⟩, .int .i64 0, .int .i64 0, .int .i64 0, .int .i64 0, .bool false] 45) = wc := ⟨_, rfl⟩
  have xob : wc.heap[wb.heap.size]? = some (.cells #[.slice none 0 0, .slice none 0 0, .slice aa n5 ac, .pointer none, .slice none 0 0, .pointer none, .string ⟨#[]⟩, .int .i64 0, .int .i64 0, .int .i64 0, .int .i64 0, .bool false] 45 (0, 0)) := by rw [← hwc]; exact heap_alloc_new wb _
  have kc : Kept [] wb wc := hwc ▸ (Kept.refl _ _).alloc _
  have XOB := Lib.hid xob; have KC := Lib.hid kc; clear xob kc
  rw [hwc]
  clear hwc
  refine (zzFodder_any _ n3 (-1) 0 b3).mono ?_
  rintro e wd ⟨vf0, lf, rfl, hf, buf, kd⟩
  obtain ⟨fa, fn, fc, rfl⟩ := hf.isSlice
  obtain rfl : n3 = fn := by rw [← buf.len]; exact hf.len.symm
  have HF := Lib.hid hf; clear hf buf
  have KD := Lib.hid kd; clear kd
  go_wp2_with (first | (refine wpList_build_to rfl 41 _ rfl (nbA (.slice fa n3 fc)) (by show Tryf.prog.built 41 [_] = _; exact built_nb _ _ _) ?_) | fail)
  refine (zzFodder_at _ n4 _ k6 b4 (by first | rfl | (unfold wrap64; omega))).mono ?_
  rintro e wf ⟨vb0, lb, rfl, hb, bub, kf⟩
  obtain ⟨ba, bn, bc, rfl⟩ := hb.isSlice
  obtain rfl : n4 = bn := by rw [← bub.len]; exact hb.len.symm
  have HB := Lib.hid hb; clear hb
  have BUB := Lib.hid bub; clear bub
  have KF := Lib.hid kf; clear kf
  go_wp2_with (first | (refine wpList_build_to rfl 54 _ rfl #[.iface 28 (.pointer (some ⟨wb.heap.size, 0, none⟩)), .iface 30 (.pointer (some ⟨xl, 0, none⟩)), .slice ba n4 bc, .slice fa n3 fc, .pointer none, .slice none 0 0, .pointer none, .string ⟨#[]⟩, .int .i64 0, .int .i64 0, .int .i64 0, .int .i64 0, .int .i64 3] (by show Tryf.prog.built 54 [_, _, _, _, _] = _; exact built_bin _ _ _ _ _ _ _ _ _ _ _) ?_) | fail)
  obtain ⟨W, hW⟩ : ∃ W, ((wf.alloc (.cells #[.iface 28 (.pointer (some ⟨wb.heap.size, 0, none⟩)), .iface 30 (.pointer (some ⟨xl, 0, none⟩)), .slice ba n4 bc, .slice fa n3 fc, .pointer none, .slice none 0 0, .pointer none, .string ⟨#[]⟩, .int .i64 0, .int .i64 0, .int .i64 0, .int .i64 0, .int .i64 3] 54)).alloc (.cells #[.iface 51 (.pointer (some ⟨wf.heap.size, 0, none⟩))] 23)).alloc (.cells #[] 59) = W := ⟨_, rfl⟩
  obtain ⟨hxb, hnb, hpb⟩ : W.heap[wf.heap.size]? = some (.cells #[.iface 28 (.pointer (some ⟨wb.heap.size, 0, none⟩)), .iface 30 (.pointer (some ⟨xl, 0, none⟩)), .slice ba n4 bc, .slice fa n3 fc, .pointer none, .slice none 0 0, .pointer none, .string ⟨#[]⟩, .int .i64 0, .int .i64 0, .int .i64 0, .int .i64 0, .int .i64 3] 54 (0, 0)) ∧ W.heap[wf.heap.size + 1]? = some (.cells #[.iface 51 (.pointer (some ⟨wf.heap.size, 0, none⟩))] 23 (0, 0)) ∧ W.heap[wf.heap.size + 1 + 1]? = some (.cells #[] 59 (0, 0)) := by rw [← hW]; exact three _ _ _
  have kW : Kept [] wf W := by rw [← hW]; exact (((Kept.refl _ _).alloc _).alloc _).alloc _
  rw [hW]
  clear hW
  have KW := Lib.hid kW; clear kW
  have kbW : Kept [] wb W := ((KC.out.trans KD.out).trans KF.out).trans KW.out
  have hpb : IsPass W (wf.heap.size + 1 + 1) := hpb
  have sA := KB.out.size
  have sB := KC.out.size
  have sD := KD.out.size
  have sF := KF.out.size
  have sob : wb.heap.size < wc.heap.size := (Array.getElem?_eq_some_iff.1 XOB.out).1
  have xobW := (((KD.out.trans KF.out).trans KW.out)).heap XOB.out (by simp)
  have hlW := HLK.out.kept (KB.out.trans kbW) (by simp)
  have haW : Fod W wa.heap.size (.slice aa n5 ac) la := HA.out.kept kbW (by simp)
  have hfW : Fod W wa.heap.size (.slice fa n3 fc) lf := (HF.out.kept (KF.out.trans KW.out) (by simp)).low (by omega)
  have hbW : Fod W wa.heap.size (.slice ba n4 bc) lb := (HB.out.kept KW.out (by simp)).low (by omega)
  have HAW := Lib.hid haW; have HBW := Lib.hid hbW
  have KWw := Lib.hid ((KA.out.trans KB.out).trans kbW)
  have tb := fun w => ta_yes_Binary (.pointer (some ⟨wf.heap.size, 0, none⟩)) 23 w
  have q1 := fun w => neqI w 30 50 ⟨xl, 0, none⟩ (by kernel_rfl) (by kernel_rfl) (by kernel_rfl)
  have q3 := fun w => neqP w 28 45 ⟨wb.heap.size, 0, none⟩ (by kernel_rfl) (by kernel_rfl)
  have dab : ∀ g, (Value.slice aa n5 ac).ownBlock = some g → (Value.slice ba n4 bc).ownBlock ≠ some g := fun g hg e => by
    have h1 := (World.ownsRow.lt HA.out g hg).2
    have h2 := (World.ownsRow.lt HB.out g e).1
    omega
  have dfb : ∀ g, (Value.slice fa n3 fc).ownBlock = some g → (Value.slice ba n4 bc).ownBlock ≠ some g := fun g hg e => by
    have h1 := (World.ownsRow.lt HF.out g hg).2
    have h2 := (World.ownsRow.lt HB.out g e).1
    omega
  have hown := own_rewrite W wa.heap.size wa.heap.size (wf.heap.size + 1) wf.heap.size wb.heap.size (wf.heap.size + 1 + 1) 30 xl _ _ _ la lb lf hpb .nilIface (Or.inl rfl) hlW hxb hnb (cell_of_block xobW 0) (cell_of_block xobW 1) (cell_of_block xobW 2) (fun o => frozen_of_block xobW o) ⟨_, xobW⟩
    haW hbW hfW dab dfb (by rw [BUA.out.len, BUB.out.len]; omega) (by have := KW.out.size; omega) (Nat.le_refl _) (by omega) (by omega) (by omega) ⟨by omega, by omega, by omega⟩ (fun g hg => by have := (World.ownsRow.lt HB.out g hg).2; omega) (El.clear BUA.out ⟨g7, g7'⟩)
  have HOWN := Lib.hid hown
  have hsz : wa.heap.size ≤ wf.heap.size := by omega
  have hszB : wa.heap.size ≤ wb.heap.size := sA
  clear hown hxb hnb xobW hlW haW hfW hbW kbW hpb sA sB sD sF sob dab dfb
  refine HOWN.out.mono ?_
  rintro e w5 ⟨rfl, hrw⟩
  obtain ⟨ab, va', vb', l', hcc, n0, e0, e1, e2, e3, hv', e4, hu', k5⟩ := hrw
  have hj := joined BUB.out BUA.out hcc ⟨g6, g6'⟩ ⟨g7, g7'⟩
  obtain ⟨pa, pc, rfl, -⟩ := hu'.slice
  obtain ⟨qa, qn, qc, rfl⟩ := hv'.isSlice
  obtain rfl : qn = 0 := hv'.len
  obtain ⟨j1, j2, j3, j4⟩ := hj
  have HU := Lib.hid hu'; clear hu' hv' hcc
  have hll : l'.length ≤ 1048576 := by
    have h1 : cL n4 n5 k6 k7 ≤ (n4 : Int) + n5 + 1 := by unfold cL; (repeat' split) <;> omega
    omega
  have J2 := Lib.hid j2; have J3 := Lib.hid j3; have J4 := Lib.hid j4; have HLL := Lib.hid hll; clear j2 j3 j4 hll
  obtain ⟨L, hL⟩ : ∃ L, l'.length = L := ⟨_, rfl⟩
  rw [hL] at j1 e4
  rw [hL] at HU
  have HLn := Lib.hid hL; clear hL
  have J1 := Lib.hid j1; clear j1
  have w1 : wrap64 (bB n4 k6 + bB n5 k7) = bB n4 k6 + bB n5 k7 := by
    have h1 := bB_in n4 k6
    have h2 := bB_in n5 k7
    unfold wrap64
    omega
  have w2 : wrap64 (bC n4 k6 + bC n5 k7) = bC n4 k6 + bC n5 k7 := by
    have h1 := bC_in n4 k6
    have h2 := bC_in n5 k7
    unfold wrap64
    omega
  have hbl : Below w.heap.size w w5 := by
    have s0 := KA.out.size
    refine (KWw.out.below (Nat.le_refl _) (by simp)).trans (k5.below (by have := KWw.out.size; omega) (fun g hg => ?_))
    simp only [List.mem_cons, Option.mem_toList] at hg
    rcases hg with rfl | rfl | rfl | hg
    · omega
    · omega
    · omega
    · have := (World.ownsRow.lt HBW.out g hg).1
      omega
  have HBL := Lib.hid hbl; clear hbl k5
  have tb := fun w => ta_yes_ApplyBrace (.pointer (some ⟨ab, 0, none⟩)) 23 w
  have t3 := fun w => ta_yes_Object (.pointer (some ⟨wb.heap.size, 0, none⟩)) 23 w
  have E4 := Lib.hid e4
  go_wp2_with fail
  go_region_held3 (fun w' => w'.cell? ⟨wb.heap.size, 2, none⟩ = some (.slice pa L pc) ∧ w' = w5.drew)
    ((try go_split_ands; first | exact ⟨E4.out, rfl⟩ | (constructor <;> assumption)))
    (first
    | (go_at_call 11; refine (zzConcatLen_any _ n4 n5 k6 k7 b4 b5).mono ?_; rintro e w2 ⟨rfl, rfl⟩))
  have j1 := J1.out
  go_wp2_with fail
  clear j1
  refine (zzBlanks_any _ _ _ l' (HU.out.kept (Kept.refl [] _).drew (by simp)) J4.out HLL.out).mono ?_
  rintro e w6 ⟨rfl, rfl⟩
  rw [J2.out]
  go_wp2_with fail
  refine (zzBuiltBlanks_any _ n4 k6 b4).mono ?_
  rintro e w7 ⟨rfl, rfl⟩
  go_wp2_with fail
  refine (zzBuiltBlanks_any _ n5 k7 b5).mono ?_
  rintro e w7 ⟨rfl, rfl⟩
  go_wp2_with fail
  refine (zzComments_any _ _ _ l' (HU.out.kept (Kept.refl [] _).drew (by simp)) HLL.out).mono ?_
  rintro e w6 ⟨rfl, rfl⟩
  rw [J3.out]
  go_wp2_with fail
  refine (zzBuiltComments_any _ n4 k6 b4).mono ?_
  rintro e w7 ⟨rfl, rfl⟩
  go_wp2_with fail
  refine (zzBuiltComments_any _ n5 k7 b5).mono ?_
  rintro e w7 ⟨rfl, rfl⟩
  go_wp2_with fail
  go_ret
  exact ⟨by first | rfl | simp, HBL.out.trans ((Kept.refl [] _).drew.below HBL.out.size (by simp))⟩
end Go.Proofs.YtaedhbpfmjiheaaFmt
