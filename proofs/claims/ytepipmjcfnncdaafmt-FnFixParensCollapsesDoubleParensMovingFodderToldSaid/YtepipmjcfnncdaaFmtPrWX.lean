/- The walk of the law FnFixParensCollapsesDoubleParensMovingFodder: it returns true at every text and five slices of texts, and writes nothing that was there. -/
import Derived.Test.YtepipmjcfnncdaaFmtPrCX
import Derived.Test.YtepipmjcfnncdaaFmtPrZ
namespace Go.Proofs.YtepipmjcfnncdaaFmt
open Go.ChangeShapes Go.WideShapes Go.ChangeAt Go.RowKit

namespace fnFixParensCollapsesDoubleParensMovingFodder
set_option maxRecDepth 100000 in
set_option maxHeartbeats 8000000 in
theorem walk (a0 : ByteArray) (a1 : Option Addr) (len1 cap1 : Nat) (z1 : List ByteArray) (a2 : Option Addr) (len2 cap2 : Nat) (z2 : List ByteArray) (a3 : Option Addr) (len3 cap3 : Nat) (z3 : List ByteArray) (a4 : Option Addr) (len4 cap4 : Nat) (z4 : List ByteArray) (a5 : Option Addr) (len5 cap5 : Nat) (z5 : List ByteArray) (w : World) (w0 : a0.size ≤ maxLen) (w1 : IsStrs w a1 len1 cap1 z1) (w2 : IsStrs w a2 len2 cap2 z2) (w3 : IsStrs w a3 len3 cap3 z3) (w4 : IsStrs w a4 len4 cap4 z4) (w5 : IsStrs w a5 len5 cap5 z5) :
    Calls Tryf.prog 7 #[.string a0, .slice a1 len1 cap1, .slice a2 len2 cap2, .slice a3 len3 cap3, .slice a4 len4 cap4, .slice a5 len5 cap5] w fun e w' => e = .returned (.bool true) ∧ Below w.heap.size w w' := by
  have W1 := Lib.hid w1; clear w1
  have W2 := Lib.hid w2; clear w2
  have W3 := Lib.hid w3; clear w3
  have W4 := Lib.hid w4; clear w4
  have W5 := Lib.hid w5; clear w5
  go_enter Tryf.func7, Tryf.ntmps7
  go_wp2_with fail
  refine (zzBytes_Pr _ _ w0 _ _ _ z1 _ _ _ z2 _ _ _ z3 _ _ _ z4 _ _ _ z5 W1.out W2.out W3.out W4.out W5.out).mono ?_
  rintro e w' ⟨b, rfl, rfl, hsm⟩
  cases b
  · clear hsm
    go_wp2_with fail
    go_ret
    exact ⟨rfl, Below.refl _ _⟩
  obtain ⟨hid, ⟨l1, s1⟩, ⟨l2, s2⟩, ⟨l3, s3⟩, ⟨l4, s4⟩, ⟨l5, s5⟩⟩ := hsm rfl
  clear hsm
  have S1 := Lib.hid s1; clear s1
  have S2 := Lib.hid s2; clear s2
  have S3 := Lib.hid s3; clear s3
  have S4 := Lib.hid s4; clear s4
  have S5 := Lib.hid s5; clear s5
  go_wp2_with fail
  refine (bytesOf_any _ _ _ _ z1 W1.out S1.out).mono ?_
  rintro e w' ⟨n1, rfl, rfl, p1, q1, r1⟩
  by_cases hn1 : 1048576 < n1
  · clear r1
    go_wp2_with fail
    go_ret
    exact ⟨rfl, Below.refl _ _⟩
  have m1 := r1 (by omega)
  clear r1
  go_wp2_with fail
  refine (bytesOf_any _ _ _ _ z2 W2.out S2.out).mono ?_
  rintro e w' ⟨n2, rfl, rfl, p2, q2, r2⟩
  by_cases hn2 : 1048576 < n2
  · clear r2
    go_wp2_with fail
    go_ret
    exact ⟨rfl, Below.refl _ _⟩
  have m2 := r2 (by omega)
  clear r2
  go_wp2_with fail
  refine (bytesOf_any _ _ _ _ z3 W3.out S3.out).mono ?_
  rintro e w' ⟨n3, rfl, rfl, p3, q3, r3⟩
  by_cases hn3 : 1048576 < n3
  · clear r3
    go_wp2_with fail
    go_ret
    exact ⟨rfl, Below.refl _ _⟩
  have m3 := r3 (by omega)
  clear r3
  go_wp2_with fail
  refine (bytesOf_any _ _ _ _ z4 W4.out S4.out).mono ?_
  rintro e w' ⟨n4, rfl, rfl, p4, q4, r4⟩
  by_cases hn4 : 1048576 < n4
  · clear r4
    go_wp2_with fail
    go_ret
    exact ⟨rfl, Below.refl _ _⟩
  have m4 := r4 (by omega)
  clear r4
  go_wp2_with fail
  refine (bytesOf_any _ _ _ _ z5 W5.out S5.out).mono ?_
  rintro e w' ⟨n5, rfl, rfl, p5, q5, r5⟩
  by_cases hn5 : 1048576 < n5
  · clear r5
    go_wp2_with fail
    go_ret
    exact ⟨rfl, Below.refl _ _⟩
  have m5 := r5 (by omega)
  clear r5
  go_wp2_with fail
  refine (bytesOf_any _ _ _ _ z1 W1.out S1.out).mono ?_
  rintro e w' ⟨k1, rfl, rfl, x1, y1, -⟩
  go_wp2_with fail
  refine (bytesOf_any _ _ _ _ z2 W2.out S2.out).mono ?_
  rintro e w' ⟨k2, rfl, rfl, x2, y2, -⟩
  go_wp2_with fail
  refine (bytesOf_any _ _ _ _ z3 W3.out S3.out).mono ?_
  rintro e w' ⟨k3, rfl, rfl, x3, y3, -⟩
  go_wp2_with fail
  refine (bytesOf_any _ _ _ _ z4 W4.out S4.out).mono ?_
  rintro e w' ⟨k4, rfl, rfl, x4, y4, -⟩
  go_wp2_with fail
  refine (bytesOf_any _ _ _ _ z5 W5.out S5.out).mono ?_
  rintro e w' ⟨k5, rfl, rfl, x5, y5, -⟩
  go_wp2_with fail
  all_goals first
    | (go_ret; exact ⟨rfl, Below.refl _ _⟩)
    | skip
  refine (interstitials_any _ _ _ _ z5 W5.out (by omega)).mono ?_
  rintro e w1 ⟨ve, le, rfl, he, ne, k1⟩
  obtain ⟨ea, ec, rfl, -⟩ := he.slice
  have HE := Lib.hid he; clear he
  have NE := Lib.hid ne; clear ne
  have K1 := Lib.hid k1; clear k1
  go_wp2_with fail
  have q1 := K1.out.alloc (varOb a0 (.slice ea le.length ec))
  refine (interstitials_any _ _ _ _ z1 (q1.strs W1.out (by simp)) (by omega)).mono ?_
  rintro e w2 ⟨va, la, rfl, ha, na, k2⟩
  obtain ⟨aa, ac, rfl, -⟩ := ha.slice
  have q2 := q1.trans k2
  have HA := Lib.hid ha; clear ha
  have NA := Lib.hid na; clear na
  have K2 := Lib.hid k2; clear k2 q1
  have Q2 := Lib.hid q2; clear q2
  go_wp2_with fail
  refine (interstitials_any _ _ _ _ z3 (Q2.out.strs W3.out (by simp)) (by omega)).mono ?_
  rintro e w3 ⟨vc, lc, rfl, hc, nc, k3⟩
  obtain ⟨ca, cc, rfl, -⟩ := hc.slice
  have HC := Lib.hid hc; clear hc
  have NC := Lib.hid nc; clear nc
  have Q3 := Lib.hid (Q2.out.trans k3)
  have K3 := Lib.hid k3; clear k3
  go_wp2_with fail
  refine (zzParVar _ _ _ _ _ _ _ _).mono ?_
  rintro e w' ⟨rfl, rfl⟩
  go_wp2_with fail
  have q3 := Q3.out.alloc (parOb (varI w1.heap.size) (.slice ca lc.length cc) (.slice aa la.length ac))
  refine (interstitials_any _ _ _ _ z2 (q3.strs W2.out (by simp)) (by omega)).mono ?_
  rintro e w4 ⟨vb, lb, rfl, hb, nb, k4⟩
  obtain ⟨ba, bc, rfl, -⟩ := hb.slice
  have HB := Lib.hid hb; clear hb
  have NB := Lib.hid nb; clear nb
  have Q4 := Lib.hid (q3.trans k4)
  have K4 := Lib.hid k4; clear k4 q3
  go_wp2_with fail
  refine (interstitials_any _ _ _ _ z4 (Q4.out.strs W4.out (by simp)) (by omega)).mono ?_
  rintro e w5 ⟨vd, ld, rfl, hd, nd, k5⟩
  obtain ⟨da, dc, rfl, -⟩ := hd.slice
  have HD := Lib.hid hd; clear hd
  have ND := Lib.hid nd; clear nd
  have K5 := Lib.hid k5; clear k5
  go_wp2_with fail
  refine (zzParPar _ _ _ _ _ _ _ _).mono ?_
  rintro e w' ⟨rfl, rfl⟩
  have hT := two_new w w1 w2 w3 w4 w5 a0 _ _ _ _ _ le la lc lb ld _ _ _ _ _ HE.out NE.out K1.out HA.out NA.out K2.out HC.out NC.out K3.out HB.out NB.out K4.out HD.out ND.out K5.out
  obtain ⟨W, hW⟩ : ∃ W, w5.alloc (parOb (parI w3.heap.size) (.slice da ld.length dc) (.slice ba lb.length bc)) = W := ⟨_, rfl⟩
  obtain ⟨X, hX⟩ : ∃ X, w1.heap.size = X := ⟨_, rfl⟩
  obtain ⟨I, hI⟩ : ∃ I, w3.heap.size = I := ⟨_, rfl⟩
  obtain ⟨O, hO⟩ : ∃ O, w5.heap.size = O := ⟨_, rfl⟩
  rw [hW, hX, hI, hO] at hT
  rw [hW, hX, hO]
  have hlen : ∀ {l : List FE} {n : Nat} {z : List ByteArray} {x : World}, Notes x x.heap.size l (z.take n) → l.length ≤ n := fun h => by have := h.1; rw [List.length_take] at this; omega
  have la1 := NA.out.1
  have lb1 := NB.out.1
  have lc1 := NC.out.1
  have ld1 := ND.out.1
  rw [List.length_take] at la1 lb1 lc1 ld1
  have hsh : Shorts [⟨O, .slice ba lb.length bc, .slice da ld.length dc, lb, ld⟩, ⟨I, .slice aa la.length ac, .slice ca lc.length cc, la, lc⟩] := by
    intro L hL
    simp at hL
    rcases hL with rfl | rfl
    · exact ⟨⟨NB.out.kinds, by dsimp only; omega⟩, ⟨ND.out.kinds, by dsimp only; omega⟩⟩
    · exact ⟨⟨NA.out.kinds, by dsimp only; omega⟩, ⟨NC.out.kinds, by dsimp only; omega⟩⟩
  clear hlen la1 lb1 lc1 ld1 hW hX hI hO HE NE K1 HA NA K2 Q2 HC NC K3 Q3 HB NB K4 Q4 HD ND K5
  have T := Lib.hid hT; clear hT
  have SH := Lib.hid hsh; clear hsh
  go_wp2_with fail
  refine (zzFixPar W ⟨O, .slice ba lb.length bc, .slice da ld.length dc, lb, ld⟩ [⟨I, .slice aa la.length ac, .slice ca lc.length cc, la, lc⟩] w.heap.size X _ le T.out.nst SH.out T.out.nd T.out.var T.out.xb T.out.vx T.out.k.size).mono ?_
  rintro e w6 ⟨rfl, lv', g1, g2, g3, g4, -⟩
  obtain ⟨L', rfl, hlo, hlc⟩ : ∃ L', lv' = [L'] ∧ L'.lo = la ++ lb ∧ L'.lc = lc ++ ld := by
    match lv', g3 with
    | [L'], g3 =>
      simp [half, Lv.pr] at g3
      exact ⟨L', rfl, g3.1, g3.2⟩
    | [], g3 => simp [half] at g3
    | _ :: _ :: _, g3 => simp [half] at g3
  have hq : L'.q = O := by simpa [nodeOf] using g2
  obtain ⟨c0, c1, c2, -, f1, f2, -⟩ := g1
  rw [hq] at c0 c1 c2
  simp only [nodeOf] at c0
  have hvar := T.out.var.kept g4 T.out.xb T.out.vx
  have hcid := g4.cell T.out.cid (by exact T.out.xb)
  have ne6 := T.out.ne.kept g4 (fun g t h _ => T.out.no g t h)
  have no6 := (T.out.na.append T.out.nb).kept g4 (fun g t h _ => T.out.no g t h)
  have nc6 := (T.out.nc.append T.out.ndd).kept g4 (fun g t h _ => T.out.no g t h)
  have hw6 : Below w.heap.size w w6 := (T.out.k.below (Nat.le_refl _) (by simp)).trans (g4.below T.out.k.size T.out.low)
  have s6 : ∀ {a : Option Addr} {n c : Nat} {z : List ByteArray}, IsStrs w a n c z → IsStrs w6 a n c z := fun h => (Kept.of_below hw6 (Nat.le_refl _) []).strs h (by simp)
  have v1 := hvar.c
  obtain ⟨oa, oc, ho, -⟩ := f1.slice
  obtain ⟨pa, pc, hp, -⟩ := f2.slice
  rw [hlo, List.length_append] at ho
  rw [hlc, List.length_append] at hp
  rw [ho] at c2 f1
  rw [hp] at c1 f2
  rw [hlo] at f1
  rw [hlc] at f2
  have F1 := Lib.hid f1; clear f1 ho
  have F2 := Lib.hid f2; clear f2 hp
  have HV := Lib.hid hvar; clear hvar
  have NE := Lib.hid ne6; clear ne6
  have NO := Lib.hid no6; clear no6
  have NC := Lib.hid nc6; clear nc6
  have HW := Lib.hid hw6; clear hw6
  have S6 := Lib.hid (fun (a : Option Addr) (n c : Nat) (z : List ByteArray) (h : IsStrs w a n c z) => s6 h); clear s6
  have e2 := fun w => neqVar w X
  clear g2 g3 g4 hlo hlc hq T SH
  go_wp2_with fail
  refine (zzInnerVar _ _ _ c0).mono ?_
  rintro e w' ⟨rfl, rfl⟩
  go_wp2_with fail
  refine (fodderIs_any _ _ _ le _ _ _ _ z5 none 0 0 [] HV.out.h (by simpa using NE.out) (S6.out _ _ _ _ W5.out) (Or.inl ⟨rfl, rfl, rfl, rfl⟩) (by omega)).mono ?_
  rintro e w7 ⟨rfl, k7⟩
  have d1 := k7.cell c1 (by simp)
  have d2 := k7.cell c2 (by simp)
  have K7 := Lib.hid k7; clear k7
  clear c0 c1 c2 v1 hcid
  go_wp2_with fail
  refine (fodderIs_any _ _ _ (la ++ lb) _ _ _ _ z1 _ _ _ z2 (F1.out.kept K7.out (by simp)) (NO.out.kept K7.out (by simp)) (K7.out.strs (S6.out _ _ _ _ W1.out) (by simp)) (K7.out.strs (S6.out _ _ _ _ W2.out) (by simp)) (by omega)).mono ?_
  rintro e w8 ⟨rfl, k8⟩
  have K8 := Lib.hid (K7.out.trans k8)
  have d1' := k8.cell d1 (by simp)
  clear k8 d1 d2
  go_wp2_with fail
  refine (fodderIs_any _ _ _ (lc ++ ld) _ _ _ _ z3 _ _ _ z4 (F2.out.kept K8.out (by simp)) (NC.out.kept K8.out (by simp)) (K8.out.strs (S6.out _ _ _ _ W3.out) (by simp)) (K8.out.strs (S6.out _ _ _ _ W4.out) (by simp)) (by omega)).mono ?_
  rintro e w9 ⟨rfl, k9⟩
  have K9 := Lib.hid (K8.out.trans k9); clear k9
  go_wp2_with fail
  go_ret
  exact ⟨rfl, HW.out.trans (K9.out.below HW.out.size (by simp))⟩
end fnFixParensCollapsesDoubleParensMovingFodder
end Go.Proofs.YtepipmjcfnncdaaFmt
