/- The contract of n008_127's zzBuild: the fodder whose elements are told by kinds, indents and comments. -/
import Derived.Test.YtdnhfboclbpdbaaInd
namespace Go.Proofs.Ytdnhfboclbpdbaa
open Go.ChangeShapes Go.WideShapes Go.ChangeAt Go.RowKit

/-- What the walk is told of a slice of strings. -/
def IsStrs (w : World) (a : Option Addr) (len cap : Nat) (ss : List ByteArray) : Prop :=
  (a = none ∧ len = 0 ∧ cap = 0 ∧ ss = []) ∨
  ∃ x, a = some x ∧ len ≤ cap ∧ cap ≤ maxLen ∧ ss.length = cap ∧ (∀ i, i < ss.length → w.cell? (x.add i) = some (.string (ss.getD i ByteArray.empty))) ∧ ∀ s ∈ ss, s.size ≤ maxLen

theorem IsStrs.open {w : World} {a : Option Addr} {len cap : Nat} {ss : List ByteArray} (h : IsStrs w a len cap ss) :
    len ≤ cap ∧ cap ≤ maxLen ∧ ss.length = cap ∧ (∀ s ∈ ss, s.size ≤ maxLen) ∧
    ∀ i, i < len → ∃ b o, a = some ⟨b, o, none⟩ ∧ b < w.heap.size ∧ ∀ j, j < cap → w.cell? ⟨b, o + j, none⟩ = some (.string (ss.getD j ByteArray.empty)) := by
  rcases h with ⟨rfl, rfl, rfl, rfl⟩ | ⟨x, rfl, h1, h2, h3, h4, h5⟩
  · exact ⟨Nat.le_refl _, Nat.zero_le _, rfl, by simp, fun i hi => by omega⟩
  · refine ⟨h1, h2, h3, h5, fun i hi => ?_⟩
    have h0 := h4 0 (by omega)
    have hs : x.spot = none := by
      have : x.add 0 = x := by unfold Addr.add; simp
      rw [this] at h0
      exact spot_of_cell h0
    obtain ⟨b, o, s⟩ := x
    simp at hs
    subst hs
    refine ⟨b, o, rfl, ?_, fun j hj => ?_⟩
    · have := World.block_lt_of_cell? w _ h0
      simpa [Addr.add] using this
    · have := h4 j (by omega)
      rwa [add_off] at this

theorem Kept.strs {S : List Nat} {w w' : World} (h : Kept S w w') {a : Option Addr} {len cap : Nat} {ss : List ByteArray} (hr : IsStrs w a len cap ss)
    (hS : ∀ g ∈ S, w.heap.size ≤ g) : IsStrs w' a len cap ss := by
  rcases hr with h1 | ⟨x, h1, h2, h3, h4, h5, h6⟩
  · exact Or.inl h1
  · refine Or.inr ⟨x, h1, h2, h3, h4, fun i hi => ?_, h6⟩
    have := h5 i hi
    exact h.cell this (fun hm => by have h1 := hS _ hm; have h2 := World.block_lt_of_cell? w _ this; omega)

/-- The kind of an element that is coded by k. -/
def kd (k : Int) : Int := if k = 1 then 1 else if k = 2 then 2 else 0

/-- Element e is built of kind code k, indent i and comment t; its comment's block lies behind B. -/
def IsEl (w : World) (B : Nat) (k i : Int) (t : ByteArray) (e : FE) : Prop :=
  e.k = kd k ∧ e.b = 0 ∧ e.i = i ∧ (k = 1 → ∃ g, e.ca = some ⟨g, 0, none⟩ ∧ e.cl = 1 ∧ e.cc = 1 ∧ B < g ∧ g < w.heap.size ∧ w.cell? ⟨g, 0, none⟩ = some (.string t)) ∧
  (k ≠ 1 → e.ca = none ∧ e.cl = 0 ∧ e.cc = 0)

theorem IsEl.kept {w w' : World} {B : Nat} {k i : Int} {t : ByteArray} {e : FE} {S : List Nat} (h : IsEl w B k i t e) (hk : Kept S w w') (hS : ∀ x ∈ S, x ≤ B ∨ w.heap.size ≤ x) : IsEl w' B k i t e := by
  obtain ⟨h1, h2, h3, h4, h5⟩ := h
  refine ⟨h1, h2, h3, fun hk1 => ?_, h5⟩
  obtain ⟨g, g1, g2, g3, g4, g5, g6⟩ := h4 hk1
  exact ⟨g, g1, g2, g3, g4, Nat.lt_of_lt_of_le g5 hk.size, hk.cell g6 (fun hm => by rcases hS _ hm with h | h <;> simp at h <;> omega)⟩

/-- One element is written whole. -/
def put4 (w : World) (g i : Nat) (e : FE) : World :=
  (((w.setCell ⟨g, i * 4, none⟩ (.slice e.ca e.cl e.cc)).setCell ⟨g, i * 4 + 1, none⟩ (.int .i64 e.k)).setCell ⟨g, i * 4 + 2, none⟩ (.int .i64 e.b)).setCell ⟨g, i * 4 + 3, none⟩ (.int .i64 e.i)

theorem Fod.put {w : World} {base : Nat} {g n cap : Nat} {l : List FE} (h : Fod w base (.slice (some ⟨g, 0, none⟩) n cap) l) (i : Nat) (e : FE) (hi : i < l.length) :
    Fod (put4 w g i e) base (.slice (some ⟨g, 0, none⟩) n cap) (l.set i e) := by
  obtain ⟨x, hx⟩ : ∃ x, l[i]? = some x := ⟨_, List.getElem?_eq_getElem hi⟩
  have hget : ∀ (m : List FE) (y : FE), i < m.length → (m.set i y)[i]? = some y := fun m y hm => by rw [List.getElem?_set_self hm]
  have s0 := h.set i x { x with ca := e.ca, cl := e.cl, cc := e.cc } hx 0 (by omega) (.slice e.ca e.cl e.cc) rfl
  have s1 := s0.set i _ { x with ca := e.ca, cl := e.cl, cc := e.cc, k := e.k } (hget _ _ hi) 1 (by omega) (.int .i64 e.k) rfl
  have s2 := s1.set i _ { x with ca := e.ca, cl := e.cl, cc := e.cc, k := e.k, b := e.b } (hget _ _ (by simpa using hi)) 2 (by omega) (.int .i64 e.b) rfl
  have s3 := s2.set i _ e (hget _ _ (by simpa using hi)) 3 (by omega) (.int .i64 e.i) rfl
  simp only [List.set_set] at s3
  exact s3

theorem Kept.put {S : List Nat} {a w : World} (h : Kept S a w) {g i : Nat} (hp : g ∈ S ∨ a.heap.size ≤ g) (e : FE) : Kept S a (put4 w g i e) :=
  (((h.setCell (p := ⟨g, i * 4, none⟩) hp _).setCell (p := ⟨g, i * 4 + 1, none⟩) hp _).setCell (p := ⟨g, i * 4 + 2, none⟩) hp _).setCell (p := ⟨g, i * 4 + 3, none⟩) hp _

/-- The loop of zzBuild: the first m elements are built. -/
def BInv (w : World) (len : Nat) (z : List Int) (iv : Nat → Int) (tx : Nat → ByteArray) (m : Nat) (wr : World) : Prop :=
  ∃ l : List FE, l.length = len ∧ Fod wr w.heap.size (.slice (some ⟨w.heap.size, 0, none⟩) len len) l ∧
    (∀ j, j < m → ∃ e, l[j]? = some e ∧ IsEl wr w.heap.size (z.getD j 0) (iv j) (tx j) e) ∧ Below w.heap.size w wr

theorem BInv.step {w : World} {len : Nat} {z : List Int} {iv : Nat → Int} {tx : Nat → ByteArray} {m : Nat} {wr : World} (h : BInv w len z iv tx m wr) (hm : m < len)
    (e : FE) (w2 : World) (hk : Kept [] (put4 wr w.heap.size m e) w2) (he : IsEl w2 w.heap.size (z.getD m 0) (iv m) (tx m) e) : BInv w len z iv tx (m + 1) w2 := by
  obtain ⟨l, hl, hf, hel, hb⟩ := h
  have hkp : Kept [w.heap.size] wr (put4 wr w.heap.size m e) := (Kept.refl _ _).put (Or.inl (by simp)) e
  refine ⟨l.set m e, by simpa using hl, (hf.put m e (by omega)).kept hk (by simp), fun j hj => ?_, ?_⟩
  · by_cases hjm : j = m
    · subst hjm
      exact ⟨e, by rw [List.getElem?_set_self (by omega)], he⟩
    · obtain ⟨x, hx, hxe⟩ := hel j (by omega)
      exact ⟨x, by rw [List.getElem?_set_ne (by omega)]; exact hx, (hxe.kept hkp (by simp)).kept hk (by simp)⟩
  · have h1 := hb.size
    have h2 := hkp.size
    exact hb.trans ((hkp.below (by omega) (by simp)).trans (hk.below (by omega) (by simp)))

theorem put4_size (w : World) (g i : Nat) (e : FE) : (put4 w g i e).heap.size = w.heap.size := by simp [put4, World.setCell]

theorem isEl_note {w : World} {g B m : Nat} {t : ByteArray} {i : Int} {e : FE} {ty : TypeId} (he : e = ⟨some ⟨w.heap.size, 0, none⟩, 1, 1, 1, 0, i⟩) (hB : B < w.heap.size) :
    IsEl ((put4 w g m e).alloc (.cells #[.string t] ty)) B 1 i t e := by
  subst he
  refine ⟨rfl, rfl, rfl, fun _ => ⟨w.heap.size, rfl, rfl, rfl, hB, ?_, ?_⟩, fun h => absurd rfl h⟩
  · simp [put4_size]
  · have h := heap_alloc_new (put4 w g m ⟨some ⟨w.heap.size, 0, none⟩, 1, 1, 1, 0, i⟩) (.cells #[.string t] ty)
    rw [put4_size] at h
    simp [World.cell?, h]

theorem isEl_plain {w : World} {B : Nat} {t : ByteArray} {k i : Int} (hk : k ≠ 1) : IsEl w B k i t ⟨none, 0, 0, kd k, 0, i⟩ :=
  ⟨rfl, rfl, rfl, fun h => absurd h hk, fun _ => ⟨rfl, rfl, rfl⟩⟩

set_option maxRecDepth 100000 in
set_option maxHeartbeats 1000000 in
theorem zzBuild_any (w : World) (a : Option Addr) (len cap : Nat) (z : List Int) (a1 : Option Addr) (len1 cap1 : Nat) (z1 : List Int) (a2 : Option Addr) (len2 cap2 : Nat) (ss : List ByteArray)
    (h : IsRow .i64 w a len cap z) (h1 : IsRow .i64 w a1 len1 cap1 z1) (h2 : IsStrs w a2 len2 cap2 ss) (hlen : len ≤ 1048576) :
    Calls Try.prog 16 #[.slice a len cap, .slice a1 len1 cap1, .slice a2 len2 cap2] w fun e w' =>
      e = .returned (.slice (some ⟨w.heap.size, 0, none⟩) len len) ∧
      BInv w len z (fun j => if j < len1 then z1.getD j 0 else 0) (fun j => if j < len2 then ss.getD j ByteArray.empty else ByteArray.empty) len w' := by
  obtain ⟨hlc, hcm, hzl, _, hcell⟩ := h.open
  obtain ⟨hlc1, hcm1, hzl1, _, hcell1⟩ := h1.open
  obtain ⟨hlc2, hcm2, hzl2, _, hcell2⟩ := h2.open
  clear h h1 h2 hzl hzl1 hzl2
  generalize hiv : (fun j => if j < len1 then z1.getD j 0 else 0) = iv
  generalize htx : (fun j => if j < len2 then ss.getD j ByteArray.empty else ByteArray.empty) = tx
  have HIV := Lib.hid hiv; clear hiv
  have HTX := Lib.hid htx; clear htx
  have HC := Lib.hid hcell; clear hcell
  have HC1 := Lib.hid hcell1; clear hcell1
  have HC2 := Lib.hid hcell2; clear hcell2
  unfold maxLen at hcm hcm1 hcm2
  obtain ⟨i0, hi, hz0, hz1, hz2⟩ := info_parts Try.infoFE
  go_enter Try.func16, Try.ntmps16
  go_wp2_with (at_make; refine wpList_make_full _ rfl _ _ 28 rfl w.heap.size 47 i0 _ 4 Try.underlying28 hi hz0 hz1 _ _ _ _ len rfl rfl rfl rfl ?b2 ?b3 (Nat.le_refl _) ?_)
  case b2 => rw [hz2]; omega
  case b3 => unfold maxLen; omega
  intro w1 hown hgrow
  have hf : BInv w len z iv tx 0 w1 := by
    refine ⟨List.replicate len FE.zero, by simp, ?_, fun j hj => by omega, (Below.refl _ _).grown hgrow (Nat.le_refl _) (by simp)⟩
    unfold Fod
    rw [List.length_replicate, ← made_flat]
    exact hown
  clear hown hgrow hi hz0 hz1 hz2
  have HF := Lib.hid hf; clear hf
  go_wp2
  go_loopw [8] (fun i wr => ∃ m : Nat, m ≤ len ∧ i = .int .i64 m ∧ BInv w len z iv tx m wr) (fun i _ => len - (intOf i).toNat)
  case atStart => exact ⟨0, Nat.zero_le _, rfl, HF.out⟩
  case round =>
    clear HF
    obtain ⟨m, hm, rfl, hf⟩ := hrel
    have hb : Below w.heap.size w wr := by obtain ⟨l, _, _, _, hb⟩ := hf; exact hb
    have HF := Lib.hid hf; clear hf
    by_cases hlt : m < len
    · obtain ⟨b, o, rfl, hbl, hc⟩ := HC.out m hlt
      have hc0 := (hb.cell (p := ⟨b, o + m, none⟩) hbl).trans (hc m (by omega))
      have hs := hb.size
      have hcs : ∀ j, j < 4 → ∃ v, wr.cell? ⟨w.heap.size, m * 4 + j, none⟩ = some v := by
        obtain ⟨l, hl, hfo, _⟩ := HF.out
        obtain ⟨e, _, q0, q1, q2, q3⟩ := hfo.cells m (by omega)
        intro j hj
        match j, hj with
        | 0, _ => exact ⟨_, q0⟩
        | 1, _ => exact ⟨_, q1⟩
        | 2, _ => exact ⟨_, q2⟩
        | 3, _ => exact ⟨_, q3⟩
      have hfz : ∀ j, wr.frozen? ⟨w.heap.size, j, none⟩ = false := by
        obtain ⟨l, hl, hfo, _⟩ := HF.out
        exact fun j => hfo.frozen j
      have f0 := hfz (m * 4)
      have f1 := hfz (m * 4 + 1)
      have f2 := hfz (m * 4 + 2)
      have f3 := hfz (m * 4 + 3)
      obtain ⟨v0, q0⟩ := hcs 0 (by omega)
      obtain ⟨v1, q1⟩ := hcs 1 (by omega)
      obtain ⟨v2, q2⟩ := hcs 2 (by omega)
      obtain ⟨v3, q3⟩ := hcs 3 (by omega)
      rw [Nat.add_zero] at q0
      clear hcs hfz hc
      have hblk : w.heap.size < wr.heap.size := by
        have := World.block_lt_of_cell? wr _ q0
        simpa using this
      obtain ⟨tm, htm⟩ : ∃ tm, tx m = tm := ⟨_, rfl⟩
      obtain ⟨im, him⟩ : ∃ im, iv m = im := ⟨_, rfl⟩
      obtain ⟨zm, hzm⟩ : ∃ zm, z.getD m 0 = zm := ⟨_, rfl⟩
      rw [hzm] at hc0
      have hfin := fun e w2 hk he => HF.out.step hlt e w2 hk he
      rw [htm, him, hzm] at hfin
      have HFIN := Lib.hid hfin; clear hfin
      have hI2 : m < len1 → ∃ b1 o1, a1 = some ⟨b1, o1, none⟩ ∧ wr.cell? ⟨b1, o1 + m, none⟩ = some (.int .i64 im) := by
        intro hI
        obtain ⟨b1, o1, ha, hbl1, hc1⟩ := HC1.out m hI
        refine ⟨b1, o1, ha, ?_⟩
        rw [(hb.cell (p := ⟨b1, o1 + m, none⟩) hbl1).trans (hc1 m (by omega)), ← him, ← HIV.out]
        simp [hI]
      have hI3 : ¬ m < len1 → im = 0 := by intro hI; rw [← him, ← HIV.out]; simp [hI]
      have hC2 : m < len2 → ∃ b1 o1, a2 = some ⟨b1, o1, none⟩ ∧ wr.cell? ⟨b1, o1 + m, none⟩ = some (.string tm) := by
        intro hI
        obtain ⟨b1, o1, ha, hbl1, hc1⟩ := HC2.out m hI
        refine ⟨b1, o1, ha, ?_⟩
        rw [(hb.cell (p := ⟨b1, o1 + m, none⟩) hbl1).trans (hc1 m (by omega)), ← htm, ← HTX.out]
        simp [hI]
      have hC3 : ¬ m < len2 → tm = ByteArray.empty := by intro hI; rw [← htm, ← HTX.out]; simp [hI]
      clear htm him hzm HF HC HC1 HC2 HIV HTX
      by_cases hI : m < len1
      · obtain ⟨b1, o1, rfl, hc1⟩ := hI2 hI
        clear hI3
        by_cases hk1 : zm = 1
        · subst hk1
          by_cases hC : m < len2
          · obtain ⟨b2, o2, rfl, hc2⟩ := hC2 hC
            clear hC3
            have hn := HFIN.out ⟨some ⟨wr.heap.size, 0, none⟩, 1, 1, 1, 0, im⟩ ((put4 wr w.heap.size m ⟨some ⟨wr.heap.size, 0, none⟩, 1, 1, 1, 0, im⟩).alloc (.cells #[.string tm] 9)) ((Kept.refl [] _).alloc _) (isEl_note rfl hblk)
            unfold put4 at hn
            dsimp only at hn
            have HN := Lib.hid hn; clear hn HFIN
            go_wp2
            go_roundw
            case rel => exact ⟨m + 1, by omega, by go_num, HN.out⟩
            case measure => simp [intOf]; omega
          · obtain rfl := hC3 hC
            clear hC2
            have hn := HFIN.out ⟨some ⟨wr.heap.size, 0, none⟩, 1, 1, 1, 0, im⟩ ((put4 wr w.heap.size m ⟨some ⟨wr.heap.size, 0, none⟩, 1, 1, 1, 0, im⟩).alloc (.cells #[.string ByteArray.empty] 9)) ((Kept.refl [] _).alloc _) (isEl_note rfl hblk)
            unfold put4 at hn
            dsimp only at hn
            have HN := Lib.hid hn; clear hn HFIN
            go_wp2
            go_roundw
            case rel => exact ⟨m + 1, by omega, by go_num, HN.out⟩
            case measure => simp [intOf]; omega
        · have hk1' : (zm == 1) = false := by simpa using hk1
          clear hC2 hC3
          by_cases hk2 : zm = 2
          · subst hk2
            have hn := HFIN.out ⟨none, 0, 0, 2, 0, im⟩ (put4 wr w.heap.size m ⟨none, 0, 0, 2, 0, im⟩) (Kept.refl [] _) (isEl_plain hk1)
            unfold put4 at hn
            dsimp only at hn
            have HN := Lib.hid hn; clear hn HFIN
            go_wp2
            go_roundw
            case rel => exact ⟨m + 1, by omega, by go_num, HN.out⟩
            case measure => simp [intOf]; omega
          · have hk2' : (zm == 2) = false := by simpa using hk2
            have hkd : kd zm = 0 := by simp [kd, hk1, hk2]
            have hn := HFIN.out ⟨none, 0, 0, kd zm, 0, im⟩ (put4 wr w.heap.size m ⟨none, 0, 0, kd zm, 0, im⟩) (Kept.refl [] _) (isEl_plain hk1)
            rw [hkd] at hn
            unfold put4 at hn
            dsimp only at hn
            have HN := Lib.hid hn; clear hn hkd HFIN hk2 hk1
            go_wp2
            go_roundw
            case rel => exact ⟨m + 1, by omega, by go_num, HN.out⟩
            case measure => simp [intOf]; omega
      · obtain rfl := hI3 hI
        clear hI2
        by_cases hk1 : zm = 1
        · subst hk1
          by_cases hC : m < len2
          · obtain ⟨b2, o2, rfl, hc2⟩ := hC2 hC
            clear hC3
            have hn := HFIN.out ⟨some ⟨wr.heap.size, 0, none⟩, 1, 1, 1, 0, 0⟩ ((put4 wr w.heap.size m ⟨some ⟨wr.heap.size, 0, none⟩, 1, 1, 1, 0, 0⟩).alloc (.cells #[.string tm] 9)) ((Kept.refl [] _).alloc _) (isEl_note rfl hblk)
            unfold put4 at hn
            dsimp only at hn
            have HN := Lib.hid hn; clear hn HFIN
            go_wp2
            go_roundw
            case rel => exact ⟨m + 1, by omega, by go_num, HN.out⟩
            case measure => simp [intOf]; omega
          · obtain rfl := hC3 hC
            clear hC2
            have hn := HFIN.out ⟨some ⟨wr.heap.size, 0, none⟩, 1, 1, 1, 0, 0⟩ ((put4 wr w.heap.size m ⟨some ⟨wr.heap.size, 0, none⟩, 1, 1, 1, 0, 0⟩).alloc (.cells #[.string ByteArray.empty] 9)) ((Kept.refl [] _).alloc _) (isEl_note rfl hblk)
            unfold put4 at hn
            dsimp only at hn
            have HN := Lib.hid hn; clear hn HFIN
            go_wp2
            go_roundw
            case rel => exact ⟨m + 1, by omega, by go_num, HN.out⟩
            case measure => simp [intOf]; omega
        · have hk1' : (zm == 1) = false := by simpa using hk1
          clear hC2 hC3
          by_cases hk2 : zm = 2
          · subst hk2
            have hn := HFIN.out ⟨none, 0, 0, 2, 0, 0⟩ (put4 wr w.heap.size m ⟨none, 0, 0, 2, 0, 0⟩) (Kept.refl [] _) (isEl_plain hk1)
            unfold put4 at hn
            dsimp only at hn
            have HN := Lib.hid hn; clear hn HFIN
            go_wp2
            go_roundw
            case rel => exact ⟨m + 1, by omega, by go_num, HN.out⟩
            case measure => simp [intOf]; omega
          · have hk2' : (zm == 2) = false := by simpa using hk2
            have hkd : kd zm = 0 := by simp [kd, hk1, hk2]
            have hn := HFIN.out ⟨none, 0, 0, kd zm, 0, 0⟩ (put4 wr w.heap.size m ⟨none, 0, 0, kd zm, 0, 0⟩) (Kept.refl [] _) (isEl_plain hk1)
            rw [hkd] at hn
            unfold put4 at hn
            dsimp only at hn
            have HN := Lib.hid hn; clear hn hkd HFIN hk2 hk1
            go_wp2
            go_roundw
            case rel => exact ⟨m + 1, by omega, by go_num, HN.out⟩
            case measure => simp [intOf]; omega
    · obtain rfl : m = len := by omega
      clear HC HC1 HC2
      go_wp2
      go_ret
      exact ⟨rfl, HF.out⟩

theorem kd_one (k : Int) : (kd k == 1) = (k == 1) := by
  unfold kd
  split
  · rename_i h; subst h; rfl
  · rename_i h
    have : (k == 1) = false := by simpa using h
    rw [this]
    split <;> rfl

/-- What the indent rules need of a built fodder. -/
theorem BInv.same {w : World} {len : Nat} {z : List Int} {iv : Nat → Int} {tx : Nat → ByteArray} {wr : World} (h : BInv w len z iv tx len wr) :
    ∃ l, Fod wr w.heap.size (.slice (some ⟨w.heap.size, 0, none⟩) len len) l ∧ sameL l = (len == 0 || z.getD 0 0 == 1) ∧ Below w.heap.size w wr := by
  obtain ⟨l, hl, hf, hel, hb⟩ := h
  refine ⟨l, hf, ?_, hb⟩
  cases l with
  | nil => simp at hl; subst hl; rfl
  | cons e l =>
    obtain ⟨x, hx, h1, _⟩ := hel 0 (by simp at hl; omega)
    simp at hx
    subst hx
    have : (len == 0) = false := by simp at hl; simp; omega
    rw [this]
    simp only [sameL, h1, Bool.false_or]
    exact kd_one _
end Go.Proofs.Ytdnhfboclbpdbaa
