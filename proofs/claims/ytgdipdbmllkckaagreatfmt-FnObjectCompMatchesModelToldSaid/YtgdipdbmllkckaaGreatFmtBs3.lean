/- The contract of n008_142's zzBuildSpec. -/
import Derived.Test.YtgdipdbmllkckaaGreatFmtBs2
import Derived.Test.YtgdipdbmllkckaaGreatFmtPutL
namespace Go.Proofs.YtgdipdbmllkckaaGreatFmt
open Go.ChangeShapes Go.WideShapes Go.ChangeAt Go.RowKit

/-- It hands over the last level of a chain that reads as ss. -/
def ChainOf (ss : List SE) (w : World) (e : Ending) (w' : World) : Prop :=
  ∃ P v l, e = .returned (P.lvl (v (ss.length - 1, 0)) (ss.length - 1)) ∧ Raw w' w.heap.size ss.length P v l ∧ Sn P l ss.length ss ∧ Kept [] w w'

def Pl.zero : Pl := ⟨fun _ => 0, fun _ => 0, fun _ => 0, fun _ => none, fun _ => 0, fun _ => 0, fun _ => 0, fun _ _ => 0⟩

/-- The chain so far, and the variable that points at its last level. -/
def Sofar (B k : Nat) (ss : List SE) (ov : Value) (w : World) : Prop := ∃ P v l, ov = P.out k ∧ Raw w B k P v l ∧ Sn P l k ss
theorem Sofar.start (w : World) (B : Nat) (ss : List SE) : Sofar B 0 ss (.pointer none) w := ⟨Pl.zero, fun _ => .pointer none, fun _ => [], rfl, Raw.zero _ _ _ _ _ (fun _ => rfl), fun i s hi => by omega⟩
theorem Sofar.ptr {w : World} {B k : Nat} {ss : List SE} {ov : Value} (h : Sofar B k ss ov w) : ∃ o, ov = .pointer o := by
  obtain ⟨P, v, l, rfl, _⟩ := h
  unfold Pl.out
  split
  · exact ⟨_, rfl⟩
  · exact ⟨_, rfl⟩
theorem Sofar.step {w w3 : World} {B k C D : Nat} {ss : List SE} {o : Option Addr} (h : Sofar B k ss (.pointer o) w) (q : Kept [] w w3) (hb0 : B ≤ w.heap.size) {s : SE} (hs : ss[k]? = some s) {ca : Option Addr} {m cc : Nat} {ys : List CY} {u : Value} {lu : List FE} {b x : Nat}
    (hC : Cnd w3 C (.slice ca m cc) ys s.ifs) (hCw : w.heap.size ≤ C) (hf : Fod w3 D u lu) (hD : w.heap.size ≤ D) (hlu : codes lu = s.f)
    (hdj : ∀ (j : Nat) y, ys[j]? = some y → ∀ g, y.2.1.val.ownBlock = some g → u.ownBlock ≠ some g)
    (hb : w3.heap[b]? = some (.cells #[u, .slice none 0 0, .slice ca m cc, .pointer o, nulI x, .string ⟨#[120]⟩, .slice none 0 0] 50 (0, 0))) (hbw : w.heap.size ≤ b)
    (hx : NulT w3 x) (hxw : w.heap.size ≤ x) (hm : m ≤ 1048576) : Sofar B (k + 1) ss (.pointer (some ⟨b, 0, none⟩)) w3 := by
  obtain ⟨P, v, l, ho, hr, hn⟩ := h
  rw [ho] at hb
  obtain ⟨cb, hr'⟩ := hr.add q hb0 hC hCw hf hD hdj hb hbw hx hxw hm
  refine ⟨_, _, _, ?_, hr', hn.add hs hlu hC.cod⟩
  unfold Pl.out
  rw [if_neg (by omega), Nat.add_sub_cancel]
  show _ = Value.pointer (some ⟨putI P.b k b k, 0, none⟩)
  rw [putI_same]

/-- The result's own cells. -/
def ResAt (b : Nat) (w : World) : Prop := Hid ((∀ i, i < 7 → ∃ u, w.cell? ⟨b, i, none⟩ = some u) ∧ ∀ i, w.frozen? ⟨b, i, none⟩ = false)
theorem ResAt.lt {b : Nat} {w : World} (h : ResAt b w) : b + 1 ≤ w.heap.size := by
  obtain ⟨u, hu⟩ := h.out.1 0 (by omega)
  exact World.block_lt_of_cell? w _ hu
theorem ResAt.kept {b : Nat} {w w' : World} (h : ResAt b w) (q : Kept [] w w') : ResAt b w' := by
  have hl := h.lt
  exact Lib.hid ⟨fun i hi => by obtain ⟨u, hu⟩ := h.out.1 i hi; exact ⟨u, q.cell hu (by simp)⟩, fun i => (q.frozen (p := ⟨b, i, none⟩) (by dsimp only; omega) (by simp)).trans (h.out.2 i)⟩
theorem cell7 {w : World} {b : Nat} {c0 c1 c2 c3 c4 c5 c6 : Value} {t : TypeId} (h : w.heap[b]? = some (.cells #[c0, c1, c2, c3, c4, c5, c6] t (0, 0))) : ∀ i, i < 7 → ∃ u, w.cell? ⟨b, i, none⟩ = some u := by
  intro i hi
  rw [cell_of_block h]
  exact ⟨_, Array.getElem?_eq_getElem (by simpa using hi)⟩

set_option maxRecDepth 100000 in
set_option maxHeartbeats 1500000 in
theorem zzBuildSpec_any (w : World) (a : Option Addr) (len cap : Nat) (ss : List SE) (h : RdS w a len cap ss) (hlen : len ≤ 1048576) (hpos : 0 < len) (hgd : ∀ s ∈ ss, GoodSp s) (hsm : ∀ s ∈ ss, SmallE s) :
    Calls Tryz.prog 26 #[.slice a len cap] w (ChainOf ss w) := by
  have hle := h.le
  have htop := h.top
  have hdl := h.len
  unfold maxLen at htop
  have HDL := Lib.hid hdl; clear hdl
  have HSM := Lib.hid hsm; clear hsm
  have HGD := Lib.hid hgd; clear hgd
  have H := Lib.hid h; clear h
  obtain ⟨i0, hi, hz0, hz1, hz2⟩ := info_parts Tryz.infoIf
  have HI := Lib.hid hi; clear hi
  have HI0 := Lib.hid hz0; clear hz0
  have HI1 := Lib.hid hz1; clear hz1
  have HI2 := Lib.hid hz2; clear hz2
  go_enter Tryz.func26, Tryz.ntmps26
  go_wp2
  go_loopw [3, 4] (fun v i wr => ∃ k : Nat, k ≤ len ∧ i = .int .i64 k ∧ Sofar (w.heap.size + 1) k ss v wr ∧ Kept [] w wr ∧ ResAt w.heap.size wr) (fun _ i _ => len - (intOf i).toNat)
  case atStart => exact ⟨0, Nat.zero_le _, rfl, Sofar.start _ _ _, (Kept.refl _ _).alloc _, Lib.hid ⟨cell7 (heap_alloc_new w _), fun i => frozen_of_block (heap_alloc_new w _) i⟩⟩
  case round =>
    obtain ⟨k, hk, rfl, hf, hb, HRS⟩ := hrel
    have HB := Lib.hid hb; clear hb
    obtain ⟨ov, rfl⟩ := hf.ptr
    have HF := Lib.hid hf; clear hf
    obtain ⟨wo, rfl⟩ : ∃ wo : World, wo = wr := ⟨_, rfl⟩
    by_cases hlt : k < len
    · obtain ⟨b, o, s, a1, l1, c1, a2, l2, c2, hs, rfl, hbl, q1, q2, h1, h2⟩ := (H.out.kept0 HB.out).sp k hlt
      obtain ⟨sm1, sm2, sm3⟩ := HSM.out s (List.mem_of_getElem? hs)
      obtain ⟨gd1, gd2⟩ := HGD.out s (List.mem_of_getElem? hs)
      have hle2 := h2.le
      have htop2 := h2.top
      have hl2 := h2.len
      have hl1 := h1.len
      unfold maxLen at htop2
      have HL1 := Lib.hid hl1; clear hl1
      have HL2 := Lib.hid hl2; clear hl2
      have H1 := Lib.hid h1; clear h1
      have H2 := Lib.hid h2; clear h2
      have HS := Lib.hid hs; clear hs
      have SM1 : Hid (l1 ≤ 1048576) := Lib.hid (by rw [← HL1.out]; exact sm1)
      have sm2' : l2 ≤ 1048576 := by rw [← HL2.out]; exact sm2
      have SM3 := Lib.hid sm3
      have GD1 := Lib.hid gd1
      have GD2 := Lib.hid gd2
      clear sm1 sm2 sm3 gd1 gd2
      go_wp2_with (at_make; refine wpList_make_own _ rfl _ _ 44 rfl wo.heap.size 103 i0 _ 2 Tryz.underlying44 HI.out HI0.out HI1.out _ _ _ l2 rfl rfl rfl ?b2 ?b3 (Nat.le_refl _) ?_)
      case b2 => rw [HI2.out]; omega
      case b3 => unfold maxLen; omega
      intro w2 hown hgrow
      have hf : Cnd w2 wo.heap.size (.slice (some ⟨wo.heap.size, 0, none⟩) 0 l2) [] [] := ⟨hown, fun j y hy => by simp at hy, fun j y hy => by simp at hy, rfl, fun i j y z hy => by simp at hy⟩
      have hb : Kept [] wo w2 := (Kept.refl _ _).grown hgrow (by simp)
      clear hown hgrow
      obtain ⟨C, hC⟩ : ∃ C, wo.heap.size = C := ⟨_, rfl⟩
      rw [hC] at hf
      have HC := Lib.hid hC
      have HRF := Lib.hid hf; clear hf
      have HRB := Lib.hid hb; clear hb
      rw [hC]
      clear hC
      go_wp2
      go_loopw [5, 6] (fun v i wr => ∃ j : Nat, j ≤ l2 ∧ i = .int .i64 j ∧ (∃ ys, Cnd wr C v ys (s.ifs.take j)) ∧ Kept [] wo wr) (fun _ i _ => l2 - (intOf i).toNat)
      case atStart => exact ⟨0, Nat.zero_le _, rfl, ⟨[], HRF.out⟩, HRB.out⟩
      case round =>
        clear HRF HRB
        obtain ⟨j, hj, rfl, ⟨ys, hf⟩, hb⟩ := hrel
        have KQ := Lib.hid hb; clear hb
        have q1' := KQ.out.cell q1 (by simp)
        have q2' := KQ.out.cell q2 (by simp)
        have q1 := Lib.hid q1
        have q2 := Lib.hid q2
        have htl : ys.length = j := by rw [hf.len, List.length_take]; have := HL2.out; omega
        obtain ⟨ua, uc, hv, -⟩ := hf.own.slice
        rw [htl] at hv
        subst hv
        have HTL := Lib.hid htl; clear htl
        have HY := Lib.hid hf; clear hf
        have hcw : C ≤ wr.heap.size := by rw [← HC.out]; exact KQ.out.size
        by_cases hjt : j < l2
        · obtain ⟨b3, o3, r, ra, rl, rc, hr, rfl, hb3, d0, hrz⟩ := (H2.out.kept0 KQ.out).row j hjt
          have hrl : rl ≤ 1048576 := by rw [← hrz.len]; exact SM3.out r (List.mem_of_getElem? hr)
          have hrg := GD2.out r (List.mem_of_getElem? hr)
          have HRZ := Lib.hid hrz; clear hrz
          have HRR := Lib.hid hr; clear hr
          have HRL := Lib.hid hrl; clear hrl
          have HRG := Lib.hid hrg; clear hrg
          go_wp2_with fail
          refine (zzBuild_any _ _ rl rc _ HRZ.out HRG.out HRL.out).mono ?_
          rintro e w3 ⟨v3, l3, rfl, hf3, hc3, k3⟩
          obtain ⟨fa, fn, fc, rfl⟩ := hf3.isSlice
          have K3 := Lib.hid k3; clear k3
          have HF3 := Lib.hid hf3; clear hf3
          have HC3 := Lib.hid hc3; clear hc3
          go_wp2_with fail
          refine (newIfSpec_any _ fa fn fc).mono ?_
          rintro e w4 ⟨rfl, hn4, k4⟩
          have kk : Kept [] wr w4 := K3.out.trans k4
          have ho : ∀ o', OwnR 103 2 encC (w4.alloc o') C (.slice ua j uc) ys := fun o' => (HY.out.own.kept0 kk).kept0 ((Kept.refl [] w4).alloc o')
          have HO := Lib.hid ho; clear ho
          have hbl3 : ∀ o', C ≤ (w4.alloc o').heap.size := fun o' => by
            have h4 : (w4.alloc o').heap.size = w4.heap.size + 1 := by simp
            have := kk.size
            omega
          have HBL := Lib.hid hbl3; clear hbl3
          have H3 : Hid (ys.length + 1 ≤ maxLen) := Lib.hid (by rw [HTL.out]; unfold maxLen; omega)
          have H4 : Hid ((ys.length + 1) * 40 ≤ 140737488355328) := Lib.hid (by rw [HTL.out]; omega)
          have HF4 : Hid (Fod w4 wr.heap.size (Trip.val (fa, fn, fc)) l3) := Lib.hid (HF3.out.kept k4 (by simp))
          have HN4 := Lib.hid hn4
          have hxc : C ≤ w3.heap.size + 1 := by have := K3.out.size; omega
          have HXC := Lib.hid hxc; clear hxc
          have KK := Lib.hid kk
          obtain ⟨X, hX⟩ : ∃ X, w3.heap.size + 1 = X := ⟨_, rfl⟩
          rw [hX] at HN4 HXC ⊢
          clear hn4 k4 kk hX
          unfold nulI
          go_wp2_with (first
            | (at_builtin; refine wpList_push (T := 103) (c := 2) (enc := encC) rfl _ _ 44 rfl C i0 _ 40 Tryz.underlying44 HI.out HI0.out HI1.out HI2.out rfl (by decide) encC_len encC_one (.slice ua j uc) ys rfl (HO.out _) w4.heap.size (X, (fa, fn, fc), l3) 1 _ rfl (heap_alloc_new w4 _) rfl H3.out H4.out (HBL.out _) ?_)
            | fail)
          intro v' w5 hown5 hk5
          have ka : Kept [] w4 (w4.alloc (.cells #[.iface 104 (.pointer (some ⟨X, 0, none⟩)), .slice fa fn fc] 103)) := (Kept.refl [] w4).alloc _
          have hown0 := HO.out (.cells #[.iface 104 (.pointer (some ⟨X, 0, none⟩)), .slice fa fn fc] 103)
          have hrow : Cnd w5 C v' (ys ++ [(X, (fa, fn, fc), l3)]) (s.ifs.take j ++ [codes l3]) :=
            HY.out.snoc (KK.out.trans ka) hcw (HN4.out.kept0 ka) HXC.out (HF4.out.kept ka (by simp)) hown5 hk5
          rw [HC3.out, ← take_snoc HRR.out] at hrow
          have hkn : Kept [] wo w5 := ((KQ.out.trans KK.out).trans ka).then hk5 (fun g hg => by
            simp only [Option.mem_toList] at hg
            exact Or.inr (by rw [HC.out]; exact (OwnR.blk hown0 hg).1))
          have HKN := Lib.hid hkn; clear hkn hk5 hown5 hown0 ka
          have HRW := Lib.hid hrow; clear hrow
          go_wp2_with fail
          exact ⟨⟨j + 1, by omega, by go_num, ⟨_, HRW.out⟩, HKN.out⟩, by simp [intOf]; omega⟩
        · obtain rfl : j = l2 := by omega
          have htk : s.ifs.take j = s.ifs := by rw [← HL2.out, List.take_length]
          have hrow : Cnd wr C (.slice ua j uc) ys s.ifs := by
            have := HY.out
            rw [htk] at this
            exact this
          clear htk
          have HROW := Lib.hid hrow; clear hrow
          clear HY
          go_wp2_with fail
          refine (zzBuild_any _ a1 l1 c1 _ (H1.out.kept0 KQ.out) GD1.out SM1.out).mono ?_
          rintro e w3 ⟨v3, l3, rfl, hf3, hc3, k3⟩
          obtain ⟨fa, fn, fc, rfl⟩ := hf3.isSlice
          have K3 := Lib.hid k3; clear k3
          have HF3 := Lib.hid hf3; clear hf3
          have HC3 := Lib.hid hc3; clear hc3
          go_wp2_with fail
          refine (newForSpec_any _ fa fn fc ua j uc ov).mono ?_
          rintro e w4 ⟨rfl, hn4, hb4, k4⟩
          have kk : Kept [] wr w4 := K3.out.trans k4
          have hsz := K3.out.size
          have hst : Sofar (w.heap.size + 1) (k + 1) ss (.pointer (some ⟨w3.heap.size + 1, 0, none⟩)) w4 :=
            HF.out.step (KQ.out.trans kk) (ResAt.lt HRS) HS.out (HROW.out.kept0 kk) (by rw [HC.out]; exact Nat.le_refl _) (HF3.out.kept k4 (by simp)) (by rw [HC.out]; exact hcw) HC3.out
              (fun j' y hy g hg e => by
                have h1 := World.ownsRow.lt (HROW.out.fod j' y hy) g hg
                have h2 := World.ownsRow.lt HF3.out g e
                omega) hb4 (by rw [HC.out]; omega) hn4 (by rw [HC.out]; omega) sm2'
          have HST := Lib.hid hst; clear hst hb4 hn4
          have HKN := Lib.hid ((HB.out.trans KQ.out).trans kk)
          have HRS' := ResAt.kept HRS (KQ.out.trans kk); clear kk k4
          go_wp2_with fail
          exact ⟨⟨k + 1, by omega, by go_num, HST.out, HKN.out, HRS'⟩, by simp [intOf]; omega⟩
    · obtain rfl : k = len := by omega
      obtain ⟨P, v, l, ho, hr, hn⟩ := HF.out
      have hlb := hr.lb (k - 1) (by omega)
      have hov : ov = some ⟨P.b (k - 1), 0, none⟩ := by
        unfold Pl.out at ho
        rw [if_neg (by omega), hr.o] at ho
        simpa using ho
      subst hov
      obtain ⟨va, vn, vc, hv⟩ := (hr.fod (k - 1, 0) ⟨by dsimp only; omega, Nat.zero_le _⟩).isSlice
      rw [hv] at hlb
      obtain ⟨po, hpo⟩ : ∃ po, P.out (k - 1) = .pointer po := by
        unfold Pl.out
        split
        · exact ⟨_, rfl⟩
        · exact ⟨_, rfl⟩
      rw [hpo] at hlb
      have d0 := cell_of_block hlb 0
      have d1 := cell_of_block hlb 1
      have d2 := cell_of_block hlb 2
      have d3 := cell_of_block hlb 3
      have d4 := cell_of_block hlb 4
      have d5 := cell_of_block hlb 5
      have d6 := cell_of_block hlb 6
      simp only [List.getElem?_toArray, List.getElem?_cons_zero, List.getElem?_cons_succ] at d0 d1 d2 d3 d4 d5 d6
      have HR := Lib.hid hr; clear hr
      have HN := Lib.hid hn; clear hn
      have HV := Lib.hid hv; clear hv
      have HPO := Lib.hid hpo; clear hpo
      clear hlb ho HF
      unfold nulI at d4
      obtain ⟨K, hK⟩ : ∃ K, k - 1 = K := ⟨_, rfl⟩
      rw [hK] at d0 d1 d2 d3 d4 d5 d6 HV HPO ⊢
      have HKK := Lib.hid hK; clear hK
      obtain ⟨⟨r0, e0⟩, ⟨r1, e1⟩, ⟨r2, e2⟩, ⟨r3, e3⟩, ⟨r4, e4⟩, ⟨r5, e5⟩, ⟨r6, e6⟩⟩ := And.intro (HRS.out.1 0 (by omega)) (And.intro (HRS.out.1 1 (by omega)) (And.intro (HRS.out.1 2 (by omega)) (And.intro (HRS.out.1 3 (by omega)) (And.intro (HRS.out.1 4 (by omega)) (And.intro (HRS.out.1 5 (by omega)) (HRS.out.1 6 (by omega)))))))
      have z0 := HRS.out.2 0
      have z1 := HRS.out.2 1
      have z2 := HRS.out.2 2
      have z3 := HRS.out.2 3
      have z4 := HRS.out.2 4
      have z5 := HRS.out.2 5
      have z6 := HRS.out.2 6
      obtain ⟨wF, hF⟩ : ∃ wF, (((((((wo.setCell ⟨w.heap.size, 0, none⟩ (.slice va vn vc)).setCell ⟨w.heap.size, 1, none⟩ (.slice none 0 0)).setCell ⟨w.heap.size, 2, none⟩ (.slice (P.ca K) (P.m K) (P.cc K))).setCell ⟨w.heap.size, 3, none⟩ (.pointer po)).setCell ⟨w.heap.size, 4, none⟩ (.iface 104 (.pointer (some ⟨P.xe K, 0, none⟩)))).setCell ⟨w.heap.size, 5, none⟩ (.string ⟨#[120]⟩)).setCell ⟨w.heap.size, 6, none⟩ (.slice none 0 0)) = wF := ⟨_, rfl⟩
      have hP : putL wo w.heap.size 0 [.slice va vn vc, .slice none 0 0, .slice (P.ca K) (P.m K) (P.cc K), .pointer po, .iface 104 (.pointer (some ⟨P.xe K, 0, none⟩)), .string ⟨#[120]⟩, .slice none 0 0] = wF := hF
      have hf : ∀ j, j < 7 → wF.cell? ⟨w.heap.size, j, none⟩ = ([.slice va vn vc, .slice none 0 0, .slice (P.ca K) (P.m K) (P.cc K), .pointer po, .iface 104 (.pointer (some ⟨P.xe K, 0, none⟩)), .string ⟨#[120]⟩, .slice none 0 0] : List Value)[j]? := fun j hj => by
        have := putL_at wo w.heap.size 0 [.slice va vn vc, .slice none 0 0, .slice (P.ca K) (P.m K) (P.cc K), .pointer po, .iface 104 (.pointer (some ⟨P.xe K, 0, none⟩)), .string ⟨#[120]⟩, .slice none 0 0] (fun j hj => by simpa using HRS.out.1 j hj) j hj
        rw [hP] at this
        simpa using this
      have kF : Kept [w.heap.size] wo wF := hP ▸ putL_kept _ _ _ _
      have HF := Lib.hid hF; clear hF hP
      have HFC := Lib.hid hf; clear hf
      have KF := Lib.hid kF; clear kF
      go_wp2_with fail
      rw [HF.out]
      clear HF e0 e1 e2 e3 e4 e5 e6 z0 z1 z2 z3 z4 z5 z6 d0 d1 d2 d3 d4 d5 d6
      have e0 := HFC.out 0 (by omega)
      have e1 := HFC.out 1 (by omega)
      have e2 := HFC.out 2 (by omega)
      have e3 := HFC.out 3 (by omega)
      have e4 := HFC.out 4 (by omega)
      have e5 := HFC.out 5 (by omega)
      have e6 := HFC.out 6 (by omega)
      simp only [List.getElem?_cons_zero, List.getElem?_cons_succ] at e0 e1 e2 e3 e4 e5 e6
      refine bodyPost_ret (v := .agg #[.slice va vn vc, .slice none 0 0, .slice (P.ca K) (P.m K) (P.cc K), .pointer po, .iface 104 (.pointer (some ⟨P.xe K, 0, none⟩)), .string ⟨#[120]⟩, .slice none 0 0]) (by simp [results, Tryz.results26, go_sem, e0, e1, e2, e3, e4, e5, e6]) rfl ?_
      have hrw : Raw wF w.heap.size k P v l := (HR.out.keptS KF.out (by simp)).low (by omega)
      have hkw : Kept [] w wF := HB.out.then KF.out (fun g hg => Or.inr (by simp at hg; omega))
      refine ⟨P, v, l, ?_, by rw [HDL.out]; exact hrw, by rw [HDL.out]; exact HN.out, hkw⟩
      rw [HDL.out, HKK.out]
      unfold Pl.lvl nulI
      rw [HV.out, HPO.out]
end Go.Proofs.YtgdipdbmllkckaaGreatFmt
