/- The contracts of n008_22's zzElement and zzFodder. -/
import Derived.Test.YtaedhbpfmjiheaaFmtFMove
import Derived.WalkSpells
namespace Go.Proofs.YtaedhbpfmjiheaaFmt
open Go.ChangeShapes Go.WideShapes Go.ChangeAt Go.RowKit

/-- An element of kind code k. -/
structure El (k : Int) (x : FE) : Prop where
  i : x.i = 0
  k1 : k = 1 → x.cl = 1 ∧ x.k = 1 ∧ x.b = 0
  k2 : k = 2 → x.cl = 1 ∧ x.k = 2 ∧ x.b = 1
  k0 : k ≠ 1 → k ≠ 2 → x.cl = 0 ∧ x.k = 0 ∧ x.b = 1
def FE.aggv (x : FE) : Value := .agg #[.slice x.ca x.cl x.cc, .int .i64 x.k, .int .i64 x.b, .int .i64 x.i]

set_option maxRecDepth 100000 in
theorem zzElement_any (w : World) (k : Int) : Calls Tryf.prog 12 #[.int .i64 k] w fun e w' => ∃ x : FE, e = .returned x.aggv ∧ El k x ∧ Kept [] w w' := by
  by_cases h1 : k = 1
  · subst h1
    go_enter Tryf.func12, Tryf.ntmps12
    go_wp2_with fail
    refine bodyPost_ret (v := FE.aggv ⟨some ⟨w.heap.size + 1, 0, none⟩, 1, 1, 1, 0, 0⟩) (by simp [results, Tryf.results12, go_sem, FE.aggv]) rfl ?_
    exact ⟨_, rfl, ⟨rfl, fun _ => ⟨rfl, rfl, rfl⟩, fun h => by omega, fun h => by omega⟩, ((Kept.refl _ _).alloc _).alloc _⟩
  by_cases h2 : k = 2
  · subst h2
    go_enter Tryf.func12, Tryf.ntmps12
    go_wp2_with fail
    refine bodyPost_ret (v := FE.aggv ⟨some ⟨w.heap.size + 1, 0, none⟩, 1, 1, 2, 1, 0⟩) (by simp [results, Tryf.results12, go_sem, FE.aggv]) rfl ?_
    exact ⟨_, rfl, ⟨rfl, fun h => by omega, fun _ => ⟨rfl, rfl, rfl⟩, fun _ h => by omega⟩, ((Kept.refl _ _).alloc _).alloc _⟩
  have e1 : (k == 1) = false := by simpa using h1
  have e2 : (k == 2) = false := by simpa using h2
  go_enter Tryf.func12, Tryf.ntmps12
  go_wp2_with fail
  refine bodyPost_ret (v := FE.aggv ⟨none, 0, 0, 0, 1, 0⟩) (by simp [results, Tryf.results12, go_sem, FE.aggv]) rfl ?_
  exact ⟨_, rfl, ⟨rfl, fun h => absurd h h1, fun h => absurd h h2, fun _ _ => ⟨rfl, rfl, rfl⟩⟩, (Kept.refl _ _).alloc _⟩

def put4 (w : World) (g i : Nat) (e : FE) : World :=
  (((w.setCell ⟨g, i * 4, none⟩ (.slice e.ca e.cl e.cc)).setCell ⟨g, i * 4 + 1, none⟩ (.int .i64 e.k)).setCell ⟨g, i * 4 + 2, none⟩ (.int .i64 e.b)).setCell ⟨g, i * 4 + 3, none⟩ (.int .i64 e.i)
theorem Fod.put {w : World} {base : Nat} {g n cap : Nat} {l : List FE} (h : Fod w base (.slice (some ⟨g, 0, none⟩) n cap) l) (i : Nat) (e : FE) (hi : i < l.length) :
    Fod (put4 w g i e) base (.slice (some ⟨g, 0, none⟩) n cap) (l.set i e) := by
  obtain ⟨x, hx⟩ : ∃ x, l[i]? = some x := ⟨_, List.getElem?_eq_getElem hi⟩
  have hget : ∀ (m : List FE) (y : FE), i < m.length → (m.set i y)[i]? = some y := fun m y hm => by rw [List.getElem?_set_self hm]
  have s0 := h.set i x { x with ca := e.ca, cl := e.cl, cc := e.cc } hx 0 (by omega) (.slice e.ca e.cl e.cc) rfl
  have s1 := s0.set i _ { x with ca := e.ca, cl := e.cl, cc := e.cc, k := e.k } (hget _ _ hi) 1 (by omega) (.int .i64 e.k) rfl
  have s2 := s1.set i _ { x with ca := e.ca, cl := e.cl, cc := e.cc, k := e.k, b := e.b } (hget _ _ (by simpa using hi)) 2 (by omega) (.int .i64 e.b) rfl
  have s3 := s2.set i _ e (hget _ _ (by simpa using hi)) 3 (by omega) (.int .i64 e.i) rfl
  simp only [List.set_set] at s3
  exact s3
theorem Kept.put {S : List Nat} {a w : World} (h : Kept S a w) {g i : Nat} (hp : g ∈ S ∨ a.heap.size ≤ g) (e : FE) : Kept S a (put4 w g i e) :=
  (((h.setCell (p := ⟨g, i * 4, none⟩) hp _).setCell (p := ⟨g, i * 4 + 1, none⟩) hp _).setCell (p := ⟨g, i * 4 + 2, none⟩) hp _).setCell (p := ⟨g, i * 4 + 3, none⟩) hp _

/-- The list that zzFodder lays. -/
structure Bu (n : Nat) (pos k : Int) (l : List FE) : Prop where
  len : l.length = n
  el : ∀ (j : Nat) x, l[j]? = some x → El (if (j : Int) = pos then k else 0) x

set_option maxRecDepth 100000 in
set_option maxHeartbeats 4000000 in
theorem zzFodder_any (w : World) (n : Nat) (pos k : Int) (hn : n ≤ 4096) : Calls Tryf.prog 5 #[.int .i64 (n : Int), .int .i64 pos, .int .i64 k] w fun e w' => ∃ v l, e = .returned v ∧ Fod w' w.heap.size v l ∧ Bu n pos k l ∧ Kept [] w w' := by
  obtain ⟨i0, hi, hz0, hz1, hz2⟩ := info_parts Tryf.infoFE
  go_enter Tryf.func5, Tryf.ntmps5
  go_wp2_with (at_make; refine wpList_make_full _ rfl _ _ 26 rfl w.heap.size 83 i0 _ 4 Tryf.underlying26 hi hz0 hz1 _ _ _ _ n rfl rfl rfl rfl ?b2 ?b3 (Nat.le_refl _) ?_)
  case b2 => rw [hz2]; omega
  case b3 => unfold maxLen; omega
  intro w1 hown hgrow
  have hf : Fod w1 w.heap.size (.slice (some ⟨w.heap.size, 0, none⟩) n n) (List.replicate n FE.zero) := by
    unfold Fod
    rw [List.length_replicate, ← made_flat]
    exact hown
  have hb : Kept [] w w1 := (Kept.refl _ _).grown hgrow (by simp)
  clear hown hgrow hi hz0 hz1 hz2
  obtain ⟨G, hG⟩ : ∃ G, w.heap.size = G := ⟨_, rfl⟩
  rw [hG] at hf ⊢
  have HG := Lib.hid hG; clear hG
  have HF := Lib.hid hf; clear hf
  have HB := Lib.hid hb; clear hb
  go_wp2
  go_loopw [8] (fun i wr => ∃ (m : Nat) (l : List FE), m ≤ n ∧ i = .int .i64 m ∧ l.length = n ∧ Fod wr G (.slice (some ⟨G, 0, none⟩) n n) l ∧ (∀ (j : Nat) x, j < m → l[j]? = some x → El (if (j : Int) = pos then k else 0) x) ∧ Kept [] w wr) (fun i _ => n - (intOf i).toNat)
  case atStart => exact ⟨0, _, Nat.zero_le _, rfl, by simp, HF.out, fun j x hj => by omega, HB.out⟩
  case round =>
    clear HF HB
    obtain ⟨m, l, hm, rfl, hl, hf, hel, hb⟩ := hrel
    have HB := Lib.hid hb; clear hb
    have HF := Lib.hid hf; clear hf
    have HEL := Lib.hid hel; clear hel
    have HL := Lib.hid hl; clear hl
    by_cases hlt : m < n
    · obtain ⟨kk, hkk⟩ : ∃ kk, (if (m : Int) = pos then k else 0) = kk := ⟨_, rfl⟩
      have hput : ∀ (w2 : World) (x : FE), Kept [] wr w2 → El kk x → ∃ l', l'.length = n ∧ Fod (put4 w2 G m x) G (.slice (some ⟨G, 0, none⟩) n n) l' ∧ (∀ (j : Nat) x, j < m + 1 → l'[j]? = some x → El (if (j : Int) = pos then k else 0) x) ∧ Kept [] w (put4 w2 G m x) := by
        intro w2 x q hx
        have f2 := HF.out.kept q (by simp)
        refine ⟨l.set m x, by rw [List.length_set, HL.out], f2.put m x (by rw [HL.out]; exact hlt), fun j y hj hy => ?_, (HB.out.trans q).put (Or.inr (by rw [HG.out]; exact Nat.le_refl _)) x⟩
        by_cases hjm : j = m
        · subst hjm
          rw [List.getElem?_set_self (by rw [HL.out]; exact hlt)] at hy
          obtain rfl : x = y := by simpa using hy
          rw [hkk]; exact hx
        · rw [List.getElem?_set_ne (by omega)] at hy
          exact HEL.out j y (by omega) hy
      have HPUT := Lib.hid hput; clear hput
      have hcs : ∀ w2, Kept [] wr w2 → ∀ j, j < 4 → (∃ v, w2.cell? ⟨G, m * 4 + j, none⟩ = some v) ∧ w2.frozen? ⟨G, m * 4 + j, none⟩ = false := by
        intro w2 q j hj
        have f2 := HF.out.kept q (by simp)
        obtain ⟨e, _, q0, q1, q2, q3⟩ := f2.cells m (by rw [HL.out]; exact hlt)
        refine ⟨?_, f2.frozen _⟩
        match j, hj with
        | 0, _ => exact ⟨_, q0⟩
        | 1, _ => exact ⟨_, q1⟩
        | 2, _ => exact ⟨_, q2⟩
        | 3, _ => exact ⟨_, q3⟩
      have HCS := Lib.hid hcs; clear hcs
      have i1 : (0 : Int) ≤ (m : Int) := by omega
      have i2 : (m : Int) < (n : Int) := by omega
      by_cases hp : (m : Int) = pos
      · rw [if_pos hp] at hkk
        have hp' : ((m : Int) == pos) = true := by simpa using hp
        clear hp
        have HKK := Lib.hid hkk; clear hkk
        go_wp2_with fail
        refine (zzElement_any _ _).mono ?_
        rintro e w2 ⟨x, rfl, hx, k2⟩
        obtain ⟨l', h1, h2, h3, h4⟩ := HPUT.out w2 x k2 (HKK.out ▸ hx)
        obtain ⟨⟨c0, d0⟩, f0⟩ := HCS.out w2 k2 0 (by omega)
        obtain ⟨⟨c1, d1⟩, f1⟩ := HCS.out w2 k2 1 (by omega)
        obtain ⟨⟨c2, d2⟩, f2⟩ := HCS.out w2 k2 2 (by omega)
        obtain ⟨⟨c3, d3⟩, f3⟩ := HCS.out w2 k2 3 (by omega)
        rw [Nat.add_zero] at d0 f0
        have H1 := Lib.hid h1; have H2 := Lib.hid h2; have H3 := Lib.hid h3; have H4 := Lib.hid h4; clear h1 h2 h3 h4 hx k2
        unfold put4 at H2 H4
        unfold FE.aggv
        go_wp2_with fail
        exact ⟨⟨m + 1, l', by omega, by go_num, H1.out, H2.out, H3.out, H4.out⟩, by simp [intOf]; omega⟩
      · rw [if_neg hp] at hkk
        have hp' : ((m : Int) == pos) = false := by simpa using hp
        clear hp
        have HKK := Lib.hid hkk; clear hkk
        go_wp2_with fail
        refine (zzElement_any _ _).mono ?_
        rintro e w2 ⟨x, rfl, hx, k2⟩
        obtain ⟨l', h1, h2, h3, h4⟩ := HPUT.out w2 x k2 (HKK.out ▸ hx)
        obtain ⟨⟨c0, d0⟩, f0⟩ := HCS.out w2 k2 0 (by omega)
        obtain ⟨⟨c1, d1⟩, f1⟩ := HCS.out w2 k2 1 (by omega)
        obtain ⟨⟨c2, d2⟩, f2⟩ := HCS.out w2 k2 2 (by omega)
        obtain ⟨⟨c3, d3⟩, f3⟩ := HCS.out w2 k2 3 (by omega)
        rw [Nat.add_zero] at d0 f0
        have H1 := Lib.hid h1; have H2 := Lib.hid h2; have H3 := Lib.hid h3; have H4 := Lib.hid h4; clear h1 h2 h3 h4 hx k2
        unfold put4 at H2 H4
        unfold FE.aggv
        go_wp2_with fail
        exact ⟨⟨m + 1, l', by omega, by go_num, H1.out, H2.out, H3.out, H4.out⟩, by simp [intOf]; omega⟩
    · obtain rfl : m = n := by omega
      go_wp2
      go_ret
      exact ⟨_, l, rfl, by rw [HG.out]; exact HF.out, ⟨HL.out, fun j x hx => HEL.out j x (by rw [← HL.out]; exact (List.getElem?_eq_some_iff.1 hx).1) hx⟩, HB.out⟩
end Go.Proofs.YtaedhbpfmjiheaaFmt
