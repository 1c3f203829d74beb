/- The walk of the law FnAlignStrongIdempotentAgreesWithAlign: it returns true at every input, and writes nothing that was there. -/
import Derived.Test.YtdnhfboclbpdbaaIndZ
import Derived.Test.YtdnhfboclbpdbaaClone
namespace Go.Proofs.Ytdnhfboclbpdbaa
open Go.ChangeShapes Go.WideShapes Go.ChangeAt Go.RowKit

set_option maxHeartbeats 400000 in
theorem zzBytes_AlSt (w : World) (a : Option Addr) (len cap : Nat) (x1 x2 x3 x4 : Int) (h : len ≤ 9223372036854775807) :
    Calls Try.prog 21 #[.slice a len cap, .int .i64 x1, .int .i64 x2, .int .i64 x3, .int .i64 x4] w (SomeBool w) := by
  go_enter Try.func21, Try.ntmps21
  go_wp2
  all_goals
    go_ret
    exact ⟨_, rfl, rfl⟩

set_option maxHeartbeats 400000 in
theorem zzKind_any (w : World) (k : Int) (h0 : 0 ≤ k) (h1 : k ≤ 255) :
    Calls Try.prog 47 #[.int .u8 k] w fun e w' => e = .returned (.int .i64 (k % 3)) ∧ w = w' := by
  have hk : k % 3 = 0 ∨ k % 3 = 1 ∨ k % 3 = 2 := by omega
  rcases hk with hk | hk | hk
  all_goals
    go_enter Try.func47, Try.ntmps47
    go_wp2
    go_ret
    exact ⟨by rw [hk]; rfl, rfl⟩

/-- The first m elements carry their kinds. -/
def KInv (w : World) (len : Nat) (z : List Int) (m : Nat) (wr : World) : Prop :=
  ∃ l : List FE, l.length = len ∧ Fod wr w.heap.size (.slice (some ⟨w.heap.size, 0, none⟩) len len) l ∧
    (∀ j, j < m → ∃ e, l[j]? = some e ∧ e.k = z.getD j 0 % 3) ∧ Below w.heap.size w wr

theorem KInv.step {w : World} {len : Nat} {z : List Int} {m : Nat} {wr : World} (h : KInv w len z m wr) (hm : m < len) (k : Int) (hk : z.getD m 0 % 3 = k) :
    KInv w len z (m + 1) (wr.setCell ⟨w.heap.size, m * 4 + 1, none⟩ (.int .i64 k)) := by
  obtain ⟨l, hl, hf, hel, hb⟩ := h
  obtain ⟨x, hx⟩ : ∃ x, l[m]? = some x := ⟨_, List.getElem?_eq_getElem (by omega)⟩
  refine ⟨l.set m { x with k := k }, by simpa using hl, hf.set m x _ hx 1 (by omega) _ rfl, fun j hj => ?_, hb.setCell (Nat.le_refl _) _⟩
  by_cases hjm : j = m
  · subst hjm
    exact ⟨_, by rw [List.getElem?_set_self (by omega)], hk.symm⟩
  · obtain ⟨y, hy, hye⟩ := hel j (by omega)
    exact ⟨y, by rw [List.getElem?_set_ne (by omega)]; exact hy, hye⟩

theorem KInv.note {w : World} {len : Nat} {z : List Int} {m : Nat} {wr : World} (h : KInv w len z m wr) (i : Nat) (hm : i < len) (ca : Option Addr) (cl cc : Nat) (o : Obj) :
    KInv w len z m ((wr.setCell ⟨w.heap.size, i * 4, none⟩ (.slice ca cl cc)).alloc o) := by
  obtain ⟨l, hl, hf, hel, hb⟩ := h
  obtain ⟨x, hx⟩ : ∃ x, l[i]? = some x := ⟨_, List.getElem?_eq_getElem (by omega)⟩
  have hs := hb.size
  have hb' := hb.setCell (p := ⟨w.heap.size, i * 4, none⟩) (Nat.le_refl _) (.slice ca cl cc)
  refine ⟨l.set i { x with ca := ca, cl := cl, cc := cc }, by simpa using hl, (hf.set i x { x with ca := ca, cl := cl, cc := cc } hx 0 (by omega) (.slice ca cl cc) rfl).kept ((Kept.refl [] _).alloc o) (by simp), fun j hj => ?_, hb'.alloc hb'.size _⟩
  by_cases hji : j = i
  · subst hji
    obtain ⟨y, hy, hye⟩ := hel j hj
    obtain rfl : x = y := by rw [hx] at hy; simpa using hy
    exact ⟨{ x with ca := ca, cl := cl, cc := cc }, by rw [List.getElem?_set_self (by omega)], hye⟩
  · obtain ⟨y, hy, hye⟩ := hel j hj
    exact ⟨y, by rw [List.getElem?_set_ne (by omega)]; exact hy, hye⟩

/-- What zzFodderFromKinds leaves. -/
def FromKinds (w : World) (len : Nat) (z : List Int) (e : Ending) (w' : World) : Prop :=
  ∃ v l, e = .returned v ∧ Fod w' w.heap.size v l ∧ sameL l = (len == 0 || z.getD 0 0 % 3 == 1) ∧ Below w.heap.size w w'

set_option maxRecDepth 100000 in
set_option maxHeartbeats 1000000 in
theorem zzFodderFromKinds_any (w : World) (a : Option Addr) (len cap : Nat) (z : List Int) (h : IsRow .u8 w a len cap z) (hlen : len ≤ 65536) :
    Calls Try.prog 23 #[.slice a len cap] w (FromKinds w len z) := by
  have heq := fun (w : World) (a : Option Addr) (l c : Nat) => Lib.run_eql_slice_nil (P := Try.prog) w 34 5 a l c 0 0 Try.underlying34
  rcases h with ⟨rfl, rfl, rfl, rfl⟩ | hx
  · go_enter Try.func23, Try.ntmps23
    go_wp2
    go_ret
    exact ⟨_, [], rfl, World.ownsRow_nil _ _ _ _, rfl, Below.refl _ _⟩
  · have h : IsRow .u8 w a len cap z := Or.inr hx
    obtain ⟨x, rfl, _⟩ := hx
    obtain ⟨hlc, hcm, hzl, hwf, hcell⟩ := h.open
    clear h
    have HZ := Lib.hid hzl; clear hzl
    have HW := Lib.hid hwf; clear hwf
    have HC := Lib.hid hcell; clear hcell
    unfold maxLen at hcm
    obtain ⟨i0, hi, hz0, hz1, hz2⟩ := info_parts Try.infoFE
    go_enter Try.func23, Try.ntmps23
    go_wp2_with (at_make; refine wpList_make_full _ rfl _ _ 28 rfl w.heap.size 47 i0 _ 4 Try.underlying28 hi hz0 hz1 _ _ _ _ len rfl rfl rfl rfl ?b2 ?b3 (Nat.le_refl _) ?_)
    case b2 => rw [hz2]; omega
    case b3 => unfold maxLen; omega
    intro w1 hown hgrow
    have hf : KInv w len z 0 w1 := by
      refine ⟨List.replicate len FE.zero, by simp, ?_, fun j hj => by omega, (Below.refl _ _).grown hgrow (Nat.le_refl _) (by simp)⟩
      unfold Fod
      rw [List.length_replicate, ← made_flat]
      exact hown
    clear hown hgrow hi hz0 hz1 hz2 heq
    have HF := Lib.hid hf; clear hf
    go_wp2_with fail
    go_loopw [4] (fun i wr => ∃ m : Nat, m ≤ len ∧ i = .int .i64 m ∧ KInv w len z m wr) (fun i _ => len - (intOf i).toNat)
    case atStart => exact ⟨0, Nat.zero_le _, rfl, HF.out⟩
    case round =>
      clear HF
      obtain ⟨m, hm, rfl, hf⟩ := hrel
      have hb : Below w.heap.size w wr := by obtain ⟨l, _, _, _, hb⟩ := hf; exact hb
      have HF := Lib.hid hf; clear hf
      by_cases hlt : m < len
      · obtain ⟨b, o, hx, hbl, hc⟩ := HC.out m hlt
        obtain rfl : x = ⟨b, o, none⟩ := by simpa using hx
        have hc0 := (hb.cell (p := ⟨b, o + m, none⟩) hbl).trans (hc m (by omega))
        have hfz : ∀ j, wr.frozen? ⟨w.heap.size, j, none⟩ = false := by
          obtain ⟨l, hl, hfo, _⟩ := HF.out
          exact fun j => hfo.frozen j
        have hcs : ∃ v0 v1, wr.cell? ⟨w.heap.size, m * 4, none⟩ = some v0 ∧ wr.cell? ⟨w.heap.size, m * 4 + 1, none⟩ = some v1 := by
          obtain ⟨l, hl, hfo, _⟩ := HF.out
          obtain ⟨e, _, q0, q1, q2, q3⟩ := hfo.cells m (by omega)
          exact ⟨_, _, q0, q1⟩
        obtain ⟨v0, v1, q0, q1⟩ := hcs
        have f0 := hfz (m * 4)
        have f1 := hfz (m * 4 + 1)
        clear hfz hc hx HC
        have hblk : w.heap.size < wr.heap.size := by
          have := World.block_lt_of_cell? wr _ q0
          simpa using this
        have hmem : z.getD m 0 ∈ z := by
          have hl : m < z.length := by rw [HZ.out]; omega
          simp [List.getD, List.getElem?_eq_getElem hl]
        have hwm := HW.out _ hmem
        obtain ⟨zm, hzm⟩ : ∃ zm, z.getD m 0 = zm := ⟨_, rfl⟩
        rw [hzm] at hwm hc0
        have hbd : 0 ≤ zm ∧ zm ≤ 255 := by simpa [Lit.wf, IntKind.min, IntKind.max, IntKind.signed, IntKind.bits] using hwm
        obtain ⟨hz0, hz1⟩ := hbd
        have hst := HF.out.step hlt (zm % 3) (by rw [hzm])
        have hnt := fun o => hst.note m hlt (some ⟨wr.heap.size, 0, none⟩) 1 1 o
        have HST := Lib.hid hst; clear hst
        have HNT := Lib.hid hnt; clear hnt hzm HW HZ HF hwm hmem
        go_wp2_with fail
        refine (zzKind_any _ _ hz0 hz1).mono ?_
        rintro e w' ⟨rfl, rfl⟩
        by_cases hk1 : zm % 3 = 1
        · rw [hk1] at HST HNT ⊢
          clear hk1
          go_wp2_with fail
          go_roundw
          case rel => exact ⟨m + 1, by omega, by go_num, HNT.out _⟩
          case measure => simp [intOf]; omega
        · have hk2 : (zm % 3 == 1) = false := by simpa using hk1
          go_wp2_with fail
          go_roundw
          case rel => exact ⟨m + 1, by omega, by go_num, HST.out⟩
          case measure => simp [intOf]; omega
      · obtain rfl : m = len := by omega
        have hfin : FromKinds w m z (.returned (.slice (some ⟨w.heap.size, 0, none⟩) m m)) wr := by
          obtain ⟨l, hl, hfo, hel, hb⟩ := HF.out
          refine ⟨_, l, rfl, hfo, ?_, hb⟩
          cases l with
          | nil => simp at hl; subst hl; rfl
          | cons e l =>
            obtain ⟨y, hy, h1⟩ := hel 0 (by simp at hl; omega)
            simp at hy
            subst hy
            have : (m == 0) = false := by simp at hl; simp; omega
            rw [this]
            simp only [sameL, h1, Bool.false_or]
        have HFIN := Lib.hid hfin; clear hfin HF HC HZ HW
        go_wp2
        go_ret
        exact HFIN.out

namespace fnAlignStrongIdempotentAgreesWithAlign
set_option linter.unusedVariables false
set_option maxRecDepth 100000 in
set_option maxHeartbeats 1000000 in
theorem walk (a0 : Option Addr) (len0 cap0 : Nat) (z0 : List Int) (a1 : Int) (a2 : Int) (a3 : Int) (a4 : Int) (w : World) (w0 : IsRow .u8 w a0 len0 cap0 z0) (w1 : (Lit.int .i64 a1).wf = true) (w2 : (Lit.int .i64 a2).wf = true) (w3 : (Lit.int .i64 a3).wf = true) (w4 : (Lit.int .i64 a4).wf = true) :
    Calls Try.prog 5 #[.slice a0 len0 cap0, .int .i64 a1, .int .i64 a2, .int .i64 a3, .int .i64 a4] w fun e w' => e = .returned (.bool true) ∧ Below w.heap.size w w' := by
  have hw := w0.open
  have hb0 : len0 ≤ 9223372036854775807 := by have := hw.1; have := hw.2.1; unfold maxLen at *; omega
  have W0 := Lib.hid w0; clear w0 w1 w2 w3 w4 hw
  go_enter Try.func5, Try.ntmps5
  go_wp2_with fail
  refine (zzBytes_AlSt _ _ _ _ _ _ _ _ hb0).mono ?_
  rintro e w' ⟨b, rfl, rfl⟩
  cases b
  · go_wp2_with fail
    go_ret
    exact ⟨rfl, Below.refl _ _⟩
  by_cases h2 : 65536 < len0
  · go_wp2_with fail
    go_ret
    exact ⟨rfl, Below.refl _ _⟩
  go_wp2_with fail
  refine (ZZnewFix_101 _ _ _).mono ?_
  rintro e w1 ⟨rfl, hfx1, hb1⟩
  have HR1 := Lib.hid ((Kept.of_below hb1 (Nat.le_refl _) []).ints W0.out (by simp))
  have HB1 := Lib.hid hb1; clear hb1 hfx1
  go_wp2_with fail
  refine (zzFodderFromKinds_any _ _ _ _ z0 HR1.out (by omega)).mono ?_
  rintro e w2 ⟨v, l, rfl, hf, hsame, hb2⟩
  have HF := Lib.hid hf; clear hf
  have HS := Lib.hid hsame; clear hsame
  have HB2 := Lib.hid (below_next HB1.out hb2)
  have HR2 := Lib.hid ((Kept.of_below hb2 (Nat.le_refl _) []).ints HR1.out (by simp)); clear hb2 HR1 HB1
  have hself : ∀ p q, selI false p q = q := fun _ _ => rfl
  have hselt : ∀ p q, selI true p q = p := fun _ _ => rfl
  cases hsl : sameL l
  all_goals
    have HSS := Lib.hid (HS.out.symm.trans hsl); clear HS
    go_wp2_with fail
    refine (ZZalignStrong_n008_101_any _ _ _ _ l _ _ _ HF.out).mono ?_
    rintro e w3 ⟨rfl, hb3⟩
    rw [hsl]
    first | (rw [hself]; try rw [hself]) | (rw [hselt]; try rw [hselt])
    have HB3 := Lib.hid (below_next HB2.out hb3); clear HB2
    have HR3 := Lib.hid ((Kept.of_below hb3 (Nat.le_refl _) []).ints HR2.out (by simp)); clear HR2
    have HF3 := Lib.hid (HF.out.below hb3 (Nat.le_refl _)); clear HF hb3
    go_wp2_with fail
    refine (ZZalignStrong_n008_101_any _ _ _ _ l _ _ _ HF3.out).mono ?_
    rintro e w4 ⟨rfl, hb4⟩
    rw [hsl]
    first | (rw [hself]; try rw [hself]) | (rw [hselt]; try rw [hselt])
    have HB4 := Lib.hid (below_next HB3.out hb4); clear HB3
    have HR4 := Lib.hid ((Kept.of_below hb4 (Nat.le_refl _) []).ints HR3.out (by simp)); clear HR3
    have HF4 := Lib.hid (HF3.out.below hb4 (Nat.le_refl _)); clear HF3 hb4
    go_wp2_with fail
    refine (ZZalign_n008_101_any _ _ _ _ l _ _ _ HF4.out).mono ?_
    rintro e w5 ⟨rfl, hb5⟩
    rw [hsl]
    first | (rw [hself]; try rw [hself]) | (rw [hselt]; try rw [hselt])
    have HB5 := Lib.hid (below_next HB4.out hb5); clear HB4
    have HR5 := Lib.hid ((Kept.of_below hb5 (Nat.le_refl _) []).ints HR4.out (by simp)); clear HR4 HF4 hb5
    obtain ⟨hlc, hcm, hzl, hwf, hcell⟩ := HR5.out.open
    have HWF := Lib.hid hwf; clear hwf
    have HCE := Lib.hid hcell; clear hcell hzl
    unfold maxLen at hcm
    by_cases h0 : len0 = 0
    · subst h0
      first
        | (exfalso; have := HSS.out; simp at this; done)
        | (go_wp2_with fail; go_ret; exact ⟨rfl, HB5.out⟩)
    · obtain ⟨b, o, rfl, hbl, hc⟩ := HCE.out 0 (by omega)
      have hc0 := hc 0 (by omega)
      rw [Nat.add_zero] at hc0
      clear HCE hc
      have hn2 : (len0 == 0) = false := by simp; omega
      have hpos : 0 < len0 := by omega
      have hss := HSS.out
      rw [hn2, Bool.false_or] at hss
      have hmm : 0 ≤ z0.getD 0 0 ∧ z0.getD 0 0 ≤ 255 := by
        cases hz : z0 with
        | nil => simp
        | cons q r =>
          have := HWF.out q (by rw [hz]; simp)
          simpa [Lit.wf, IntKind.min, IntKind.max, IntKind.signed, IntKind.bits] using this
      obtain ⟨hm0, hm1⟩ := hmm
      generalize z0.getD 0 0 = zq at *
      have hss' : (zq % 3 != 1) = !(zq % 3 == 1) := rfl
      rw [hss] at hss'
      simp only [Bool.not_true, Bool.not_false] at hss'
      clear HSS HWF
      go_wp2_with fail
      go_ret
      exact ⟨rfl, HB5.out⟩
end fnAlignStrongIdempotentAgreesWithAlign
end Go.Proofs.Ytdnhfboclbpdbaa
