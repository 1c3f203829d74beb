/- The contracts of n008_135's chainMatchesB2 and chainsAgreeB2, at chains that match. -/
import Derived.Test.YtddcpnhpjgeldaaH2
import Derived.LaidEqlPtr
namespace Go.Proofs.Ytddcpnhpjgeldaa
open Go.ChangeShapes Go.WideShapes Go.ChangeAt Go.RowKit

def RS (_ : World) (cs : List Value) (t : Trip) : Prop := cs = [t.val]
def RdT := Rd 1 RS
theorem RdT.kept0 {w w' : World} {a : Option Addr} {len cap : Nat} {ts : List Trip} (h : RdT w a len cap ts) (hk : Kept [] w w') : RdT w' a len cap ts :=
  Rd.kept h hk (by simp) (fun _ _ h => h)
theorem RdT.row {w : World} {a : Option Addr} {len cap : Nat} {ts : List Trip} (h : RdT w a len cap ts) (i : Nat) (hi : i < len) :
    ∃ b o t, ts[i]? = some t ∧ a = some ⟨b, o, none⟩ ∧ b < w.heap.size ∧ w.cell? ⟨b, o + i, none⟩ = some t.val := by
  have hl : i < ts.length := by have := h.len; omega
  obtain ⟨b, o, cs, h1, h2, h3, h4, h5⟩ := h.at' i ts[i] (List.getElem?_eq_getElem hl)
  have h4' : cs = [ts[i].val] := h4
  subst h4'
  exact ⟨b, o, ts[i], List.getElem?_eq_getElem hl, h1, h2, by simpa using h5 0 (by omega)⟩

theorem eqlLoc (w : World) (x : Nat) : (binOp .eql 34 (.pointer (some ⟨x, 0, none⟩)) (.pointer (some ⟨x, 0, none⟩))).run Try.prog w = .ok (.bool true) w := by
  obtain ⟨j, hj⟩ : ∃ j, Try.prog.info? 60 = some j := Option.isSome_iff_exists.1 (by kernel_rfl)
  exact run_eql_ptr_same w ⟨x, 0, none⟩ (by kernel_rfl) hj
theorem eqlLocNe (w : World) (x y : Nat) (ca cb : Array Value) (ta tb : TypeId) (hne : ¬ x = y) (ha : w.heap[x]? = some (.cells ca ta (0, 0))) (hb : w.heap[y]? = some (.cells cb tb (0, 0))) : (binOp .eql 34 (.pointer (some ⟨x, 0, none⟩)) (.pointer (some ⟨y, 0, none⟩))).run Try.prog w = .ok (.bool false) w := by
  obtain ⟨j, hj⟩ : ∃ j, Try.prog.info? 60 = some j := Option.isSome_iff_exists.1 (by kernel_rfl)
  have hsz : (Try.prog.info? 60).map (fun i => decide (i.size ≠ 0)) = some true := by kernel_rfl
  rw [hj] at hsz
  simp only [Option.map_some, Option.some.injEq, decide_eq_true_eq] at hsz
  exact run_eql_ptr_other w (a := ⟨x, 0, none⟩) (b := ⟨y, 0, none⟩) (by kernel_rfl) hj hsz (fun e => hne (congrArg Addr.block e)) ha hb

set_option maxRecDepth 100000 in
set_option maxHeartbeats 4000000 in
theorem chainMatches_any (w : World) (p send lo : Nat) (a0 : Option Addr) (n c0 : Nat) (vs : List ByteArray) (a1 : Option Addr) (c1 : Nat) (ts : List Trip) (L : List (ByteArray × List ZE)) (hch : ChainL w lo send p L) (hlo : send < lo) (hse : ∃ cs t, w.heap[send]? = some (.cells cs t (0, 0))) (h0 : RdB w a0 n c0 vs) (h1 : RdT w a1 n c1 ts)
    (hv : ∀ (i : Nat) s, vs[i]? = some s → ∃ cs, L[i]? = some (s, cs)) (hf : ∀ (i : Nat) t x, ts[i]? = some t → L[i]? = some x → ∃ b l, Fod w b t.val l ∧ codes l = x.2) (hL : L.length = n) :
    Calls Try.prog 20 #[.pointer (some ⟨p, 0, none⟩), .pointer (some ⟨send, 0, none⟩), .slice a0 n c0, .slice a1 n c1] w (Bl true w) := by
  have hle := h0.le
  have htop := h0.top
  have hle1 := h1.le
  have htop1 := h1.top
  unfold maxLen at htop htop1
  have H0 := Lib.hid h0; clear h0
  have H1 := Lib.hid h1; clear h1
  obtain ⟨scs, st, hse⟩ := hse
  have HSE := Lib.hid hse; clear hse
  have HCH := Lib.hid hch; clear hch
  have HV := Lib.hid hv; clear hv
  have HF := Lib.hid hf; clear hf
  have HLL := Lib.hid hL; clear hL
  go_enter Try.func20, Try.ntmps20
  go_wp2_with fail
  go_loopw [9, 10] (fun cv i wr => ∃ (k p : Nat), k ≤ n ∧ i = .int .i64 k ∧ cv = .pointer (some ⟨p, 0, none⟩) ∧ Hid (ChainL w lo send p (L.drop k)) ∧ Kept [] w wr) (fun _ i _ => n - (intOf i).toNat)
  case atStart => exact ⟨0, p, Nat.zero_le _, rfl, rfl, Lib.hid (by rw [List.drop_zero]; exact HCH.out), Kept.refl _ _⟩
  case round =>
    obtain ⟨k, p, hk, rfl, rfl, HC, hb⟩ := hrel
    have HB := Lib.hid hb; clear hb
    by_cases hkn : k < n
    · obtain ⟨b0, o0, s, hs, rfl, hbl, d0⟩ := (H0.out.kept0 HB.out).row k hkn
      obtain ⟨cs, hLk⟩ := HV.out k s hs
      obtain ⟨b1, o1, t, ht, rfl, hbl1, d1⟩ := (H1.out.kept0 HB.out).row k hkn
      obtain ⟨fb, fl, hfd, hfc⟩ := HF.out k t _ ht hLk
      dsimp only at hfc
      have hdr : L.drop k = (s, cs) :: L.drop (k + 1) := by
        obtain ⟨h1, h2⟩ := List.getElem?_eq_some_iff.1 hLk
        rw [List.drop_eq_getElem_cons h1, h2]
      have hc := HC.out
      rw [hdr] at hc
      clear hdr hLk hs ht HC
      obtain ⟨hlp, ⟨pcs, hpb⟩, bb, q, fv, b, l, e1, e2, e3, e4, e5, e6, e7⟩ := hc
      dsimp only at e2 e5
      have HC := Lib.hid e7; clear e7
      obtain ⟨la, lc, hv, -⟩ := e4.slice
      obtain ⟨ln, hn⟩ : ∃ n, l.length = n := ⟨_, rfl⟩
      rw [hn] at hv
      subst hv
      clear hn
      obtain ⟨⟨ta, tn, tc⟩, rfl⟩ : ∃ t', t = t' := ⟨t, rfl⟩
      unfold Trip.val at d1 hfd
      dsimp only at d1 hfd
      have hcc : codes l = codes fl := by rw [e5, hfc]
      have HCC := Lib.hid hcc; clear hcc e5 hfc
      have F1 := Lib.hid (e4.kept HB.out (by simp)); clear e4
      have F2 := Lib.hid (hfd.kept HB.out (by simp)); clear hfd
      have q1 := HB.out.cell e1 (by simp)
      have q2 := HB.out.cell e2 (by simp)
      have q3 := HB.out.cell e3 (by simp)
      have q6 := HB.out.cell e6 (by simp)
      have e6 := Lib.hid e6
      clear e1 e2 e3
      have hne : ¬ p = send := by omega
      have heq := eqlLocNe wr p send _ _ _ _ hne (HB.out.heap hpb (by simp)) (HB.out.heap HSE.out (by simp))
      clear hpb hne
      have i1 : (0 : Int) ≤ (k : Int) := by omega
      have i2 : (k : Int) < (n : Int) := by omega
      go_wp2_with fail
      go_quiet ((go_at_call 35; exact Calls.quiet_of (same_any _ b _ _ _ l fb _ _ _ fl (F1.out.kept ((Kept.refl [] _).drewN _) (by simp)) (F2.out.kept ((Kept.refl [] _).drewN _) (by simp)) HCC.out)))
      go_wp2_with fail
      refine (bodyLocal_any _ p q (((Kept.refl [] wr).drewN nq).cell q6 (by simp))).mono ?_
      rintro e w' ⟨rfl, rfl⟩
      go_wp2_with fail
      exact ⟨⟨k + 1, q, by omega, by go_num, rfl, HC, HB.out.drewN _⟩, by simp [intOf]; omega⟩
    · obtain rfl : k = n := by omega
      have hc := HC.out
      rw [List.drop_eq_nil_iff.2 (by rw [HLL.out]; exact Nat.le_refl _)] at hc
      obtain rfl : p = send := hc
      have heq := eqlLoc wr p
      go_wp2_with fail
      go_ret
      exact ⟨rfl, HB.out⟩

set_option maxRecDepth 100000 in
set_option maxHeartbeats 4000000 in
theorem chainsAgree_any (w : World) (p p' send lo n : Nat) (L : List (ByteArray × List ZE)) (hch : ChainL w lo send p L) (hch' : ChainL w lo send p' L) (hlo : send < lo) (hse : ∃ cs t, w.heap[send]? = some (.cells cs t (0, 0))) (hL : L.length = n) (hn : n ≤ 1048577) :
    Calls Try.prog 23 #[.pointer (some ⟨p, 0, none⟩), .pointer (some ⟨p', 0, none⟩), .pointer (some ⟨send, 0, none⟩), .int .i64 (n : Int)] w (Bl true w) := by
  obtain ⟨scs, st, hse⟩ := hse
  have HSE := Lib.hid hse; clear hse
  have HCH := Lib.hid hch; clear hch
  have HCH' := Lib.hid hch'; clear hch'
  have HLL := Lib.hid hL; clear hL
  go_enter Try.func23, Try.ntmps23
  go_wp2_with fail
  go_loopw [0, 1, 9] (fun av bv i wr => ∃ (k p p' : Nat), k ≤ n ∧ i = .int .i64 k ∧ av = .pointer (some ⟨p, 0, none⟩) ∧ bv = .pointer (some ⟨p', 0, none⟩) ∧ Hid (ChainL w lo send p (L.drop k)) ∧ Hid (ChainL w lo send p' (L.drop k)) ∧ Kept [] w wr) (fun _ _ i _ => n - (intOf i).toNat)
  case atStart => exact ⟨0, p, p', Nat.zero_le _, rfl, rfl, rfl, Lib.hid (by rw [List.drop_zero]; exact HCH.out), Lib.hid (by rw [List.drop_zero]; exact HCH'.out), Kept.refl _ _⟩
  case round =>
    obtain ⟨k, p, p', hk, rfl, rfl, rfl, HC, HC', hb⟩ := hrel
    have HB := Lib.hid hb; clear hb
    by_cases hkn : k < n
    · have hkl : k < L.length := by rw [HLL.out]; exact hkn
      have hdr : L.drop k = (L[k].1, L[k].2) :: L.drop (k + 1) := List.drop_eq_getElem_cons hkl
      obtain ⟨s, hs⟩ : ∃ s, L[k].1 = s := ⟨_, rfl⟩
      obtain ⟨cs, hcs⟩ : ∃ cs, L[k].2 = cs := ⟨_, rfl⟩
      rw [hs, hcs] at hdr
      clear hs hcs
      have hc := HC.out
      have hc' := HC'.out
      rw [hdr] at hc hc'
      clear hdr HC HC'
      obtain ⟨hlp, ⟨pcs, hpb⟩, bb, q, fv, b, l, e1, e2, e3, e4, e5, e6, e7⟩ := hc
      obtain ⟨hlp', ⟨pcs', hpb'⟩, bb', q', fv', b', l', d1, d2, d3, d4, d5, d6, d7⟩ := hc'
      dsimp only at e2 e5 d2 d5
      have HC := Lib.hid e7; clear e7
      have HC' := Lib.hid d7; clear d7
      obtain ⟨la, lc, hv, -⟩ := e4.slice
      obtain ⟨ln, hn⟩ : ∃ n, l.length = n := ⟨_, rfl⟩
      rw [hn] at hv
      subst hv
      clear hn
      obtain ⟨la', lc', hv, -⟩ := d4.slice
      obtain ⟨ln', hn⟩ : ∃ n, l'.length = n := ⟨_, rfl⟩
      rw [hn] at hv
      subst hv
      clear hn
      have hcc : codes l = codes l' := by rw [e5, d5]
      have HCC := Lib.hid hcc; clear hcc e5 d5
      have F1 := Lib.hid (e4.kept HB.out (by simp)); clear e4
      have F2 := Lib.hid (d4.kept HB.out (by simp)); clear d4
      have q1 := HB.out.cell e1 (by simp)
      have q2 := HB.out.cell e2 (by simp)
      have q3 := HB.out.cell e3 (by simp)
      have q6 := HB.out.cell e6 (by simp)
      have r1 := HB.out.cell d1 (by simp)
      have r2 := HB.out.cell d2 (by simp)
      have r3 := HB.out.cell d3 (by simp)
      have r6 := HB.out.cell d6 (by simp)
      clear e1 e2 e3 d1 d2 d3 e6 d6
      have hne : ¬ p = send := by omega
      have heq := eqlLocNe wr p send _ _ _ _ hne (HB.out.heap hpb (by simp)) (HB.out.heap HSE.out (by simp))
      clear hpb hne
      have hne' : ¬ p' = send := by omega
      have heq' := eqlLocNe wr p' send _ _ _ _ hne' (HB.out.heap hpb' (by simp)) (HB.out.heap HSE.out (by simp))
      clear hpb' hne'
      go_wp2_with fail
      go_quiet (fail)
      obtain ⟨wq, hwq⟩ : ∃ wq, wr.drewN nq = wq := ⟨_, rfl⟩
      have kq : Kept [] wr wq := by rw [← hwq]; exact (Kept.refl [] wr).drewN nq
      rw [hwq]
      clear hwq
      have q3 := kq.cell q3 (by simp)
      have r3 := kq.cell r3 (by simp)
      have q6 := kq.cell q6 (by simp)
      have r6 := kq.cell r6 (by simp)
      have F1 := Lib.hid (F1.out.kept kq (by simp))
      have F2 := Lib.hid (F2.out.kept kq (by simp))
      have HB := Lib.hid (HB.out.trans kq)
      go_wp2_with fail
      go_quiet ((go_at_call 35; exact Calls.quiet_of (same_any _ b _ _ _ l b' _ _ _ l' (F1.out.kept ((Kept.refl [] _).drewN _) (by simp)) (F2.out.kept ((Kept.refl [] _).drewN _) (by simp)) HCC.out)))
      go_wp2_with fail
      refine (bodyLocal_any _ p q (((Kept.refl [] wq).drewN _).cell q6 (by simp))).mono ?_
      rintro e w' ⟨rfl, rfl⟩
      go_wp2_with fail
      refine (bodyLocal_any _ p' q' (((Kept.refl [] wq).drewN _).cell r6 (by simp))).mono ?_
      rintro e w' ⟨rfl, rfl⟩
      go_wp2_with fail
      exact ⟨⟨k + 1, q, q', by omega, by go_num, rfl, rfl, HC, HC', HB.out.drewN _⟩, by simp [intOf]; omega⟩
    · obtain rfl : k = n := by omega
      have hc := HC.out
      rw [List.drop_eq_nil_iff.2 (by rw [HLL.out]; exact Nat.le_refl _)] at hc
      obtain rfl : p = send := hc
      have hc' := HC'.out
      rw [List.drop_eq_nil_iff.2 (by rw [HLL.out]; exact Nat.le_refl _)] at hc'
      obtain rfl : p' = p := hc'
      have heq := eqlLoc wr p'
      go_wp2_with fail
      go_ret
      exact ⟨rfl, HB.out⟩
end Go.Proofs.Ytddcpnhpjgeldaa
