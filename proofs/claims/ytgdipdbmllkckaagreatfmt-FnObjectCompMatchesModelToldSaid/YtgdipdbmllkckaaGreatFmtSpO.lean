/- Levels that the call itself writes, and the contract of n008_142's zzSpecsEnsured. -/
import Derived.Test.YtgdipdbmllkckaaGreatFmtSB2
namespace Go.Proofs.YtgdipdbmllkckaaGreatFmt
open Go.ChangeShapes Go.WideShapes Go.ChangeAt Go.RowKit

def encP (u : Trip × Trip) : List Value := [u.1.val, u.2.val]
theorem encP_len (u : Trip × Trip) : (encP u).length = 2 := rfl
theorem encP_one (u : Trip × Trip) : ∀ x ∈ encP u, x.oneCell' = true := by
  intro x hx
  simp only [encP, List.mem_cons, List.not_mem_nil, or_false] at hx
  rcases hx with rfl | rfl <;> rfl
def SpO (w : World) (base : Nat) (u : Trip × Trip) (s : SE) : Prop := Snp w base u.1.val s.f ∧ RowO w base u.2.val s.ifs
/-- v is a slice, of the call's own, of levels, of the call's own. -/
def SpsO (w : World) (base : Nat) (v : Value) (ss : List SE) : Prop :=
  ∃ us : List (Trip × Trip), OwnR 79 2 encP w base v us ∧ us.length = ss.length ∧ ∀ (i : Nat) u s, us[i]? = some u → ss[i]? = some s → SpO w base u s
theorem SpO.kept0 {w w' : World} {base : Nat} {u : Trip × Trip} {s : SE} (h : SpO w base u s) (q : Kept [] w w') : SpO w' base u s := ⟨OwnR.kept0 h.1 q, h.2.kept0 q⟩
theorem SpO.low {w : World} {b b' : Nat} {u : Trip × Trip} {s : SE} (h : SpO w b u s) (hb : b' ≤ b) : SpO w b' u s := ⟨OwnR.low h.1 hb, h.2.low hb⟩
theorem SpsO.kept0 {w w' : World} {base : Nat} {v : Value} {ss : List SE} (h : SpsO w base v ss) (q : Kept [] w w') : SpsO w' base v ss := by
  obtain ⟨us, h1, h2, h3⟩ := h
  exact ⟨us, h1.kept0 q, h2, fun i u s hu hs => (h3 i u s hu hs).kept0 q⟩
theorem SpO.keptT {T' : Nat} {S : List Nat} {w w' : World} {base : Nat} {u : Trip × Trip} {s : SE} (h : SpO w base u s) (q : Kept S w w') (hS : ∀ g ∈ S, ∃ cs, w.heap[g]? = some (.cells cs T' (0, 0))) (h1 : T' ≠ 81) (h2 : T' ≠ 24) : SpO w' base u s :=
  ⟨h.1.keptT q hS h1, h.2.keptT q hS h1 h2⟩
theorem SpO.rsp {w : World} {base : Nat} {u : Trip × Trip} {s : SE} (h : SpO w base u s) : RSp w (encP u) s := ⟨u.1.1, u.1.2.1, u.1.2.2, u.2.1, u.2.2.1, u.2.2.2, rfl, Snp.rdz h.1, RowO.rdr h.2⟩
theorem SpsO.rds {w : World} {base : Nat} {a : Option Addr} {n cap : Nat} {ss : List SE} (h : SpsO w base (.slice a n cap) ss) : RdS w a n cap ss := by
  obtain ⟨us, h1, h2, h3⟩ := h
  exact OwnR.rd h1 encP_len RSp ss h2.symm (fun i u s hu hs => (h3 i u s hu hs).rsp)
theorem SpsO.slice {w : World} {base : Nat} {v : Value} {ss : List SE} (h : SpsO w base v ss) : ∃ a c, v = .slice a ss.length c := by
  obtain ⟨ts, h1, h2, _⟩ := h
  obtain ⟨a, c, hv, _⟩ := h1.slice
  exact ⟨a, c, by rw [hv, h2]⟩
theorem SpsO.snoc {w w' : World} {base : Nat} {v v' : Value} {ss : List SE} {us : List (Trip × Trip)} {u : Trip × Trip} {s : SE} (h2 : us.length = ss.length) (h3 : ∀ (i : Nat) u s, us[i]? = some u → ss[i]? = some s → SpO w base u s) (hd : SpO w base u s) (hv : OwnR 79 2 encP w base v us)
    (hn : OwnR 79 2 encP w' base v' (us ++ [u])) (q : Kept v.ownBlock.toList w w') : SpsO w' base v' (ss ++ [s]) := by
  have ne : (79 : Nat) ≠ 81 := by decide
  have ne2 : (79 : Nat) ≠ 24 := by decide
  refine ⟨_, hn, by simp [h2], fun j t' d' ht hd' => ?_⟩
  by_cases hj : j < us.length
  · rw [List.getElem?_append_left hj] at ht
    rw [List.getElem?_append_left (by omega)] at hd'
    exact (h3 j t' d' ht hd').keptT q hv.typ ne ne2
  · rw [List.getElem?_append_right (by omega)] at ht
    rw [List.getElem?_append_right (by omega), ← h2] at hd'
    have hj0 : j - us.length = 0 := by
      by_cases h0 : j - us.length = 0
      · exact h0
      · rw [List.getElem?_eq_none (by simp; omega)] at ht; cases ht
    rw [hj0] at ht hd'
    simp at ht hd'
    subst ht hd'
    exact hd.keptT q hv.typ ne ne2
theorem Tryz.infoSp : (Tryz.prog.info? 79).map (fun i => (i.zero, i.size, i.bytes)) = some (some (.agg #[.slice none 0 0, .slice none 0 0]), 2, 48) := by kernel_rfl

def ensSp (s : SE) : SE := ⟨ensE s.f, s.ifs.map ensE⟩
theorem map_take_snoc {α β : Type} (f : α → β) {l : List α} {k : Nat} {z : α} (h : l[k]? = some z) : (l.take (k + 1)).map f = (l.take k).map f ++ [f z] := by
  rw [take_snoc h, List.map_append]; rfl

set_option maxRecDepth 100000 in
set_option maxHeartbeats 8000000 in
theorem zzSpecsEnsured_any (w : World) (a : Option Addr) (len cap : Nat) (ss : List SE) (h : RdS w a len cap ss) (hlen : len ≤ 1048576) (hsm : ∀ s ∈ ss, SmallE s) :
    Calls Tryz.prog 20 #[.slice a len cap] w fun e w' => ∃ t : Trip, e = .returned t.val ∧ SpsO w' w.heap.size t.val (ss.map ensSp) ∧ Kept [] w w' := by
  have hle := h.le
  have htop := h.top
  have hdl := h.len
  unfold maxLen at htop
  have HDL := Lib.hid hdl; clear hdl
  have HSM := Lib.hid hsm; clear hsm
  have H := Lib.hid h; clear h
  obtain ⟨i0, hi, hz0, hz1, hz2⟩ := info_parts Tryz.infoSp
  have HI := Lib.hid hi; clear hi
  have HI0 := Lib.hid hz0; clear hz0
  have HI1 := Lib.hid hz1; clear hz1
  have HI2 := Lib.hid hz2; clear hz2
  obtain ⟨r0, hi, hz0, hz1, hz2⟩ := info_parts Tryz.infoRow
  have HR := Lib.hid hi; clear hi
  have HR0 := Lib.hid hz0; clear hz0
  have HR1 := Lib.hid hz1; clear hz1
  have HR2 := Lib.hid hz2; clear hz2
  go_enter Tryz.func20, Tryz.ntmps20
  go_wp2_with (at_make; refine wpList_make_own _ rfl _ _ 23 rfl w.heap.size 79 i0 _ 2 Tryz.underlying23 HI.out HI0.out HI1.out _ _ _ len rfl rfl rfl ?b2 ?b3 (Nat.le_refl _) ?_)
  case b2 => rw [HI2.out]; omega
  case b3 => unfold maxLen; omega
  intro w1 hown hgrow
  have hf : SpsO w1 w.heap.size (.slice (some ⟨w.heap.size, 0, none⟩) 0 len) [] := ⟨[], hown, rfl, fun i u s hu => by simp at hu⟩
  have hb : Kept [] w w1 := (Kept.refl _ _).grown hgrow (by simp)
  clear hown hgrow
  obtain ⟨B, hB⟩ : ∃ B, w.heap.size = B := ⟨_, rfl⟩
  rw [hB] at hf
  have HBB := Lib.hid hB
  have HF := Lib.hid hf; clear hf
  have HB := Lib.hid hb; clear hb
  rw [hB]
  clear hB
  go_wp2
  go_loopw [3, 4] (fun v i wr => ∃ m : Nat, m ≤ len ∧ i = .int .i64 m ∧ SpsO wr B v ((ss.take m).map ensSp) ∧ Kept [] w wr) (fun _ i _ => len - (intOf i).toNat)
  case atStart => exact ⟨0, Nat.zero_le _, rfl, HF.out, HB.out⟩
  case round =>
    clear HF HB
    obtain ⟨m, hm, rfl, hf, hb⟩ := hrel
    have HB := Lib.hid hb; clear hb
    obtain ⟨va, vc, hv⟩ := hf.slice
    have hln : ((ss.take m).map ensSp).length = m := by rw [List.length_map, List.length_take]; have := HDL.out; omega
    rw [hln] at hv
    have HLN := Lib.hid hln; clear hln
    subst hv
    have HF := Lib.hid hf; clear hf
    obtain ⟨wo, rfl⟩ : ∃ wo : World, wo = wr := ⟨_, rfl⟩
    have hBr : B ≤ wo.heap.size := by rw [← HBB.out]; exact HB.out.size
    by_cases hlt : m < len
    · obtain ⟨b, o, s, a1, l1, c1, a2, l2, c2, hs, rfl, hbl, q1, q2, h1, h2⟩ := (H.out.kept0 HB.out).sp m hlt
      obtain ⟨sm1, sm2, sm3⟩ := HSM.out s (List.mem_of_getElem? hs)
      have hle2 := h2.le
      have htop2 := h2.top
      have hl2 := h2.len
      have hl1 := h1.len
      unfold maxLen at htop2
      have HL1 := Lib.hid hl1; clear hl1
      have HL2 := Lib.hid hl2; clear hl2
      have H1 := Lib.hid h1; clear h1
      have H2 := Lib.hid h2; clear h2
      have HS := Lib.hid hs; clear hs
      have SM1 : Hid (l1 ≤ 1048576) := Lib.hid (by rw [← HL1.out]; exact sm1)
      have sm2' : l2 ≤ 1048576 := by rw [← HL2.out]; exact sm2
      have SM3 := Lib.hid sm3
      clear sm1 sm2 sm3
      go_wp2_with (at_make; refine wpList_make_own _ rfl _ _ 77 rfl wo.heap.size 24 r0 _ 1 Tryz.underlying77 HR.out HR0.out HR1.out _ _ _ l2 rfl rfl rfl ?b2 ?b3 (Nat.le_refl _) ?_)
      case b2 => rw [HR2.out]; omega
      case b3 => unfold maxLen; omega
      intro w2 hown hgrow
      have hf : RowO w2 wo.heap.size (.slice (some ⟨wo.heap.size, 0, none⟩) 0 l2) [] := ⟨[], hown, rfl, fun i u s hu => by simp at hu⟩
      have hb : Kept [] wo w2 := (Kept.refl _ _).grown hgrow (by simp)
      clear hown hgrow
      obtain ⟨C, hC⟩ : ∃ C, wo.heap.size = C := ⟨_, rfl⟩
      rw [hC] at hf hBr
      have HC := Lib.hid hC
      have HRF := Lib.hid hf; clear hf
      have HRB := Lib.hid hb; clear hb
      rw [hC]
      clear hC
      go_wp2
      go_loopw [5, 6] (fun v i wr => ∃ j : Nat, j ≤ l2 ∧ i = .int .i64 j ∧ RowO wr C v ((s.ifs.take j).map ensE) ∧ Kept [] wo wr) (fun _ i _ => l2 - (intOf i).toNat)
      case atStart => exact ⟨0, Nat.zero_le _, rfl, HRF.out, HRB.out⟩
      case round =>
        clear HRF HRB
        obtain ⟨j, hj, rfl, hf, hb⟩ := hrel
        have KQ := Lib.hid hb; clear hb
        have q1' := KQ.out.cell q1 (by simp)
        have q2' := KQ.out.cell q2 (by simp)
        have q1 := Lib.hid q1
        have q2 := Lib.hid q2
        obtain ⟨ts, t1, t2, t3⟩ := hf
        have htl : ts.length = j := by rw [t2, List.length_map, List.length_take]; have := HL2.out; omega
        obtain ⟨ua, uc, hv, -⟩ := t1.slice
        rw [htl] at hv
        subst hv
        have HTL := Lib.hid htl; clear htl
        have T1 := Lib.hid t1; clear t1
        have T2 := Lib.hid t2; clear t2
        have T3 := Lib.hid t3; clear t3
        by_cases hjt : j < l2
        · obtain ⟨b3, o3, r, ra, rl, rc, hr, rfl, hb3, d0, hrz⟩ := (H2.out.kept0 KQ.out).row j hjt
          have hrl : rl ≤ 1048576 := by rw [← hrz.len]; exact SM3.out r (List.mem_of_getElem? hr)
          have HRZ := Lib.hid hrz; clear hrz
          have HRR := Lib.hid hr; clear hr
          have HRL := Lib.hid hrl; clear hrl
          go_wp2_with fail
          refine (zzEnsured_any _ ra rl rc _ HRZ.out HRL.out).mono ?_
          rintro e w3 ⟨⟨ea, en, ec⟩, rfl, hsn, k3⟩
          have hcw : C ≤ wr.heap.size := by rw [← HC.out]; exact KQ.out.size
          have ht3 : OwnR 24 1 encS w3 C (.slice ua j uc) ts := T1.out.kept0 k3
          have ho : ∀ o', OwnR 24 1 encS (w3.alloc o') C (.slice ua j uc) ts := fun o' => ht3.kept0 ((Kept.refl [] w3).alloc o')
          have HO := Lib.hid ho; clear ho ht3
          have hsn' : Snp w3 C (Trip.val (ea, en, ec)) (ensE r) := OwnR.low hsn hcw
          have hbl3 : ∀ o', C ≤ (w3.alloc o').heap.size := fun o' => by
            have h4 : (w3.alloc o').heap.size = w3.heap.size + 1 := by simp
            have := k3.size
            omega
          have HBL := Lib.hid hbl3; clear hbl3
          have HSN := Lib.hid hsn'; clear hsn hsn'
          have K3 := Lib.hid k3; clear k3
          have H3 : Hid (ts.length + 1 ≤ maxLen) := Lib.hid (by rw [HTL.out]; unfold maxLen; omega)
          have H4 : Hid ((ts.length + 1) * 24 ≤ 140737488355328) := Lib.hid (by rw [HTL.out]; omega)
          clear hcw
          dsimp only [Trip.val]
          go_wp2_with (first
            | (at_builtin; refine wpList_push (T := 24) (c := 1) (enc := encS) rfl _ _ 77 rfl C r0 _ 24 Tryz.underlying77 HR.out HR0.out HR1.out HR2.out rfl (by decide) encS_len encS_one (.slice ua j uc) ts rfl (HO.out _) w3.heap.size (ea, en, ec) 1 _ rfl (heap_alloc_new w3 _) rfl H3.out H4.out (HBL.out _) ?_)
            | fail)
          intro v' w4 hown4 hk4
          have ka : Kept [] w3 (w3.alloc (.cells #[.slice ea en ec] 24)) := (Kept.refl [] w3).alloc _
          have hown0 := HO.out (.cells #[.slice ea en ec] 24)
          have hrow : RowO w4 C v' ((s.ifs.take j).map ensE ++ [ensE r]) :=
            RowO.snoc (t := (ea, en, ec)) T2.out (fun j' t' d' a b => OwnR.kept0 (T3.out j' t' d' a b) (K3.out.trans ka)) (OwnR.kept0 HSN.out ka) hown0 hown4 hk4
          rw [← map_take_snoc ensE HRR.out] at hrow
          have hkn : Kept [] wo w4 := ((KQ.out.trans K3.out).trans ka).then hk4 (fun g hg => by
            simp only [Option.mem_toList] at hg
            exact Or.inr (by rw [HC.out]; exact (OwnR.blk hown0 hg).1))
          have HKN := Lib.hid hkn; clear hkn hk4 hown4 hown0 ka
          have HRW := Lib.hid hrow; clear hrow
          go_wp2_with fail
          exact ⟨⟨j + 1, by omega, by go_num, HRW.out, HKN.out⟩, by simp [intOf]; omega⟩
        · obtain rfl : j = l2 := by omega
          have hifs : (s.ifs.take j).map ensE = s.ifs.map ensE := by rw [← HL2.out, List.take_length]
          have hrow : RowO wr C (.slice ua j uc) (s.ifs.map ensE) := ⟨ts, T1.out, by rw [← hifs]; exact T2.out, fun j' t' d' a b => T3.out j' t' d' a (by rw [hifs]; exact b)⟩
          have HROW := Lib.hid hrow; clear hrow hifs
          clear T1 T2 T3
          go_wp2_with fail
          refine (zzEnsured_any _ a1 l1 c1 _ (H1.out.kept0 KQ.out) SM1.out).mono ?_
          rintro e w3 ⟨⟨ea, en, ec⟩, rfl, hsn, k3⟩
          have hcw : C ≤ wr.heap.size := by rw [← HC.out]; exact KQ.out.size
          obtain ⟨us, u1, u2, u3⟩ := HF.out
          have hul : us.length = m := u2.trans HLN.out
          have kk : Kept [] wo w3 := KQ.out.trans k3
          have ho : ∀ o', OwnR 79 2 encP (w3.alloc o') B (.slice va m vc) us := fun o' => u1.kept0 (kk.alloc o')
          have HO := Lib.hid ho; clear ho
          have hsp : SpO w3 B ((ea, en, ec), (ua, j, uc)) (ensSp s) := ⟨OwnR.low hsn (by omega), (HROW.out.kept0 k3).low hBr⟩
          have HSP := Lib.hid hsp; clear hsp hsn
          have hbl3 : ∀ o', B ≤ (w3.alloc o').heap.size := fun o' => by
            have h4 : (w3.alloc o').heap.size = w3.heap.size + 1 := by simp
            have := k3.size
            omega
          have HBL := Lib.hid hbl3; clear hbl3
          have K3 := Lib.hid kk; clear k3 kk
          have H3 : Hid (us.length + 1 ≤ maxLen) := Lib.hid (by rw [hul]; unfold maxLen; omega)
          have H4 : Hid ((us.length + 1) * 48 ≤ 140737488355328) := Lib.hid (by rw [hul]; omega)
          have U2 := Lib.hid u2
          have U3 := Lib.hid u3
          clear hcw u1 u2 u3 hul
          dsimp only [Trip.val]
          go_wp2_with (first
            | (at_builtin; refine wpList_push (T := 79) (c := 2) (enc := encP) rfl _ _ 23 rfl B i0 _ 48 Tryz.underlying23 HI.out HI0.out HI1.out HI2.out rfl (by decide) encP_len encP_one (.slice va m vc) us rfl (HO.out _) w3.heap.size ((ea, en, ec), (ua, j, uc)) 1 _ rfl (heap_alloc_new w3 _) rfl H3.out H4.out (HBL.out _) ?_)
            | fail)
          intro v' w4 hown4 hk4
          have ka : Kept [] w3 (w3.alloc (.cells #[.slice ea en ec, .slice ua j uc] 79)) := (Kept.refl [] w3).alloc _
          have hown0 := HO.out (.cells #[.slice ea en ec, .slice ua j uc] 79)
          have hrow : SpsO w4 B v' ((ss.take m).map ensSp ++ [ensSp s]) :=
            SpsO.snoc (u := ((ea, en, ec), (ua, j, uc))) U2.out (fun j' t' d' a b => (U3.out j' t' d' a b).kept0 (K3.out.trans ka)) (HSP.out.kept0 ka) hown0 hown4 hk4
          rw [← map_take_snoc ensSp HS.out] at hrow
          have hkn : Kept [] w w4 := ((HB.out.trans K3.out).trans ka).then hk4 (fun g hg => by
            simp only [Option.mem_toList] at hg
            exact Or.inr (by rw [HBB.out]; exact (OwnR.blk hown0 hg).1))
          have HKN := Lib.hid hkn; clear hkn hk4 hown4 hown0 ka
          have HRW := Lib.hid hrow; clear hrow
          go_wp2_with fail
          exact ⟨⟨m + 1, by omega, by go_num, HRW.out, HKN.out⟩, by simp [intOf]; omega⟩
    · obtain rfl : m = len := by omega
      have hd : (ss.take m).map ensSp = ss.map ensSp := by rw [← HDL.out, List.take_length]
      rw [hd] at HF
      go_wp2
      go_ret
      exact ⟨(va, m, vc), rfl, by rw [HBB.out]; exact HF.out, HB.out⟩
end Go.Proofs.YtgdipdbmllkckaaGreatFmt
