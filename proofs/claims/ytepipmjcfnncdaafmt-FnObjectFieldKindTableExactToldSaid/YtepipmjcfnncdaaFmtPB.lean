/- The contracts of n008_125's zzFodder, zzSameBlanks, zzBlanksOf. -/
import Derived.Test.YtepipmjcfnncdaaFmtNode
import Derived.WalkSpells
namespace Go.Proofs.YtepipmjcfnncdaaFmt
open Go.ChangeShapes Go.WideShapes Go.ChangeAt Go.RowKit

/-- A line end with that many blanks. -/
def bfe (b : Int) : FE := ⟨none, 0, 0, 0, b, 0⟩

/-- The first m of n elements are told by z through f, the rest are zero. -/
def gTo (f : Nat → FE) (n m : Nat) : List FE := (List.range n).map fun j => if j < m then f j else FE.zero
theorem gTo_length (f : Nat → FE) (n m : Nat) : (gTo f n m).length = n := by simp [gTo]
theorem gTo_zero (f : Nat → FE) (n : Nat) : gTo f n 0 = List.replicate n FE.zero := by
  apply List.ext_getElem?
  intro j
  simp only [gTo, Nat.not_lt_zero, if_false, List.getElem?_map, List.getElem?_replicate]
  by_cases h : j < n <;> simp [h]
theorem gTo_set (f : Nat → FE) (n m : Nat) (h : m < n) : (gTo f n m).set m (f m) = gTo f n (m + 1) := by
  apply List.ext_getElem?
  intro j
  rw [List.getElem?_set]
  by_cases hj : m = j
  · subst hj
    simp [gTo, h]
  · rw [if_neg hj]
    simp only [gTo, List.getElem?_map]
    by_cases hn : j < n
    · simp only [List.getElem?_range hn, Option.map_some, Option.some.injEq]
      have : (j < m) = (j < m + 1) := by apply propext; omega
      simp only [this]
    · simp [hn]
theorem gTo_full (z : List Int) (n : Nat) (h : n ≤ z.length) : gTo (fun j => bfe (z.getD j 0)) n n = (z.take n).map bfe := by
  apply List.ext_getElem?
  intro j
  simp only [gTo, List.getElem?_map, List.getElem?_take]
  by_cases hj : j < n
  · simp [hj, List.getElem?_eq_getElem (show j < z.length by omega)]
  · simp [hj]

/-- One element is written whole. -/
def put4 (w : World) (g i : Nat) (e : FE) : World :=
  (((w.setCell ⟨g, i * 4, none⟩ (.slice e.ca e.cl e.cc)).setCell ⟨g, i * 4 + 1, none⟩ (.int .i64 e.k)).setCell ⟨g, i * 4 + 2, none⟩ (.int .i64 e.b)).setCell ⟨g, i * 4 + 3, none⟩ (.int .i64 e.i)

theorem Fod.put {w : World} {base : Nat} {g n cap : Nat} {l : List FE} (h : Fod w base (.slice (some ⟨g, 0, none⟩) n cap) l) (i : Nat) (e : FE) (hi : i < l.length) :
    Fod (put4 w g i e) base (.slice (some ⟨g, 0, none⟩) n cap) (l.set i e) := by
  obtain ⟨x, hx⟩ : ∃ x, l[i]? = some x := ⟨_, List.getElem?_eq_getElem hi⟩
  have hget : ∀ (m : List FE) (y : FE), i < m.length → (m.set i y)[i]? = some y := fun m y hm => by rw [List.getElem?_set_self hm]
  have s0 := h.set i x { x with ca := e.ca, cl := e.cl, cc := e.cc } hx 0 (by omega) (.slice e.ca e.cl e.cc) rfl
  have s1 := s0.set i _ { x with ca := e.ca, cl := e.cl, cc := e.cc, k := e.k } (hget _ _ hi) 1 (by omega) (.int .i64 e.k) rfl
  have s2 := s1.set i _ { x with ca := e.ca, cl := e.cl, cc := e.cc, k := e.k, b := e.b } (hget _ _ (by simpa using hi)) 2 (by omega) (.int .i64 e.b) rfl
  have s3 := s2.set i _ e (hget _ _ (by simpa using hi)) 3 (by omega) (.int .i64 e.i) rfl
  simp only [List.set_set] at s3
  exact s3

theorem Kept.put {S : List Nat} {a w : World} (h : Kept S a w) {g i : Nat} (hp : g ∈ S ∨ a.heap.size ≤ g) (e : FE) : Kept S a (put4 w g i e) :=
  (((h.setCell (p := ⟨g, i * 4, none⟩) hp _).setCell (p := ⟨g, i * 4 + 1, none⟩) hp _).setCell (p := ⟨g, i * 4 + 2, none⟩) hp _).setCell (p := ⟨g, i * 4 + 3, none⟩) hp _

set_option maxRecDepth 100000 in
set_option maxHeartbeats 1000000 in
theorem zzFodder_any (w : World) (a : Option Addr) (len cap : Nat) (z : List Int) (h : IsRow .i64 w a len cap z) (hlen : len ≤ 1048576) :
    Calls Tryf.prog 67 #[.slice a len cap] w fun e w' => ∃ v, e = .returned v ∧ Fod w' w.heap.size v ((z.take len).map bfe) ∧ Kept [] w w' := by
  have heq := fun (w : World) (a : Option Addr) (l c : Nat) => Lib.run_eql_slice_nil (P := Tryf.prog) w 22 3 a l c 0 0 Tryf.underlying22
  rcases h with ⟨rfl, rfl, rfl, rfl⟩ | hx
  · go_enter Tryf.func67, Tryf.ntmps67
    go_wp2
    go_ret
    exact ⟨.slice none 0 0, rfl, World.ownsRow_nil _ _ _ _, Kept.refl _ _⟩
  have h : IsRow .i64 w a len cap z := Or.inr hx
  obtain ⟨x, rfl, _⟩ := hx
  obtain ⟨hlc, hcm, hzl, _, hcell⟩ := h.open
  clear h
  have HZ := Lib.hid hzl; clear hzl
  have HC := Lib.hid hcell; clear hcell
  unfold maxLen at hcm
  obtain ⟨i0, hi, hz0, hz1, hz2⟩ := info_parts Tryf.infoFE
  go_enter Tryf.func67, Tryf.ntmps67
  go_wp2_with (at_make; refine wpList_make_full _ rfl _ _ 33 rfl w.heap.size 162 i0 _ 4 Tryf.underlying33 hi hz0 hz1 _ _ _ _ len rfl rfl rfl rfl ?b2 ?b3 (Nat.le_refl _) ?_)
  case b2 => rw [hz2]; omega
  case b3 => unfold maxLen; omega
  intro w1 hown hgrow
  have hf : Fod w1 w.heap.size (.slice (some ⟨w.heap.size, 0, none⟩) len len) (gTo (fun j => bfe (z.getD j 0)) len 0) := by
    unfold Fod
    rw [gTo_length, gTo_zero, ← made_flat]
    exact hown
  have hb : Kept [] w w1 := (Kept.refl _ _).grown hgrow (by simp)
  clear hown hgrow hi hz0 hz1 hz2 heq
  obtain ⟨B, hB⟩ : ∃ B, w.heap.size = B := ⟨_, rfl⟩
  rw [hB] at hf ⊢
  have HBB := Lib.hid hB; clear hB
  have HF := Lib.hid hf; clear hf
  have HB := Lib.hid hb; clear hb
  go_wp2
  go_loopw [4] (fun i wr => ∃ m : Nat, m ≤ len ∧ i = .int .i64 m ∧ Fod wr B (.slice (some ⟨B, 0, none⟩) len len) (gTo (fun j => bfe (z.getD j 0)) len m) ∧ Kept [] w wr) (fun i _ => len - (intOf i).toNat)
  case atStart => exact ⟨0, Nat.zero_le _, rfl, HF.out, HB.out⟩
  case round =>
    clear HF HB
    obtain ⟨m, hm, rfl, hf, hb⟩ := hrel
    have HB := Lib.hid hb; clear hb
    have HF := Lib.hid hf; clear hf
    by_cases hlt : m < len
    · obtain ⟨b, o, hx, hbl, hc⟩ := HC.out m hlt
      obtain rfl : x = ⟨b, o, none⟩ := by simpa using hx
      have hcm := HB.out.cell (hc m (by omega)) (by simp)
      clear hx hc
      obtain ⟨zm, hzm⟩ : ∃ zm, z.getD m 0 = zm := ⟨_, rfl⟩
      rw [hzm] at hcm
      have HZM := Lib.hid hzm; clear hzm
      have hk2 : Kept [] wr wr := Kept.refl _ _
      have hF2 := HF.out
      obtain ⟨y, hy, q0, q1, q2, q3⟩ := hF2.cells m (by rw [gTo_length]; exact hlt)
      have f0 := hF2.frozen (m * 4)
      have f1 := hF2.frozen (m * 4 + 1)
      have f2 := hF2.frozen (m * 4 + 2)
      have f3 := hF2.frozen (m * 4 + 3)
      have hn := hF2.put m (bfe zm) (by rw [gTo_length]; exact hlt)
      have hset : (gTo (fun j => bfe (z.getD j 0)) len m).set m (bfe (z.getD m 0)) = gTo (fun j => bfe (z.getD j 0)) len (m + 1) := gTo_set (fun j => bfe (z.getD j 0)) len m hlt
      rw [HZM.out] at hset
      rw [hset] at hn
      have hkn : Kept [B] wr (put4 wr B m (bfe zm)) := (Kept.refl _ _).put (Or.inl (by simp)) _
      have hce : bfe zm = ⟨none, 0, 0, 0, zm, 0⟩ := rfl
      rw [hce] at hn hkn
      unfold put4 at hn hkn
      dsimp only at hn hkn
      have HN := Lib.hid hn; clear hn
      have HKN := Lib.hid hkn; clear hkn
      have HK2 := Lib.hid hk2; clear hk2
      clear hF2 hset hce hy
      go_wp2_with fail
      exact ⟨⟨m + 1, by omega, by go_num, HN.out, (HB.out.trans HK2.out).then HKN.out (by intro x hx; simp at hx; exact Or.inr (by rw [HBB.out]; omega))⟩, by simp [intOf]; omega⟩
    · obtain rfl : m = len := by omega
      go_wp2_with fail
      go_ret
      rw [HBB.out]
      exact ⟨_, rfl, gTo_full z m (by rw [HZ.out]; omega) ▸ HF.out, HB.out⟩

/-- The first len numbers of a slice. -/
def IntRow (w : World) (a : Option Addr) (len : Nat) (zs : List Int) : Prop := ∀ i, i < len → ∃ b o, a = some ⟨b, o, none⟩ ∧ b < w.heap.size ∧ w.cell? ⟨b, o + i, none⟩ = some (.int .i64 (zs.getD i 0))
theorem IsRow.intRow {w : World} {a : Option Addr} {len cap : Nat} {zs : List Int} (h : IsRow .i64 w a len cap zs) : IntRow w a len zs := by
  obtain ⟨h1, _, _, _, hc⟩ := h.open
  intro i hi
  obtain ⟨b, o, h2, h3, h4⟩ := hc i hi
  exact ⟨b, o, h2, h3, h4 i (by omega)⟩
theorem IntRow.kept {S : List Nat} {w w' : World} {a : Option Addr} {len : Nat} {zs : List Int} (h : IntRow w a len zs) (hk : Kept S w w') (hS : ∀ b o, a = some ⟨b, o, none⟩ → b ∉ S) : IntRow w' a len zs := by
  intro i hi
  obtain ⟨b, o, h2, h3, h4⟩ := h i hi
  exact ⟨b, o, h2, Nat.lt_of_lt_of_le h3 hk.size, hk.cell h4 (hS b o h2)⟩

set_option maxRecDepth 100000 in
set_option maxHeartbeats 1000000 in
theorem zzSame_any (w : World) (base : Nat) (v : Value) (l : List FE) (a : Option Addr) (len cap : Nat) (z : List Int) (h : Fod w base v l) (hz : IntRow w a len z) (hl : l.length = len) (hlen : len ≤ 1048576)
    (hs : ∀ (j : Nat) x, l[j]? = some x → x.b = z.getD j 0) :
    Calls Tryf.prog 18 #[v, .slice a len cap] w fun e w' => e = .returned (.bool true) ∧ Kept [] w w' := by
  obtain ⟨fa, fc, rfl, -, -, ha⟩ := h.slice
  rw [hl] at h ⊢
  have H := Lib.hid h; clear h
  have HZ := Lib.hid hz; clear hz
  have HS := Lib.hid hs; clear hs
  have HA := Lib.hid ha; clear ha
  have HL := Lib.hid hl; clear hl
  go_enter Tryf.func18, Tryf.ntmps18
  go_wp2_with fail
  go_loopw [5] (fun i wr => ∃ m : Nat, m ≤ len ∧ i = .int .i64 m ∧ Kept [] w wr) (fun i _ => len - (intOf i).toNat)
  case atStart => exact ⟨0, Nat.zero_le _, rfl, Kept.refl _ _⟩
  case round =>
    obtain ⟨m, hm, rfl, hb⟩ := hrel
    have HB := Lib.hid hb; clear hb
    by_cases hlt : m < len
    · obtain ⟨g, rfl, -, -⟩ := HA.out m (by rw [HL.out]; exact hlt)
      obtain ⟨x, hx, -, -, c2, -⟩ := H.out.cells m (by rw [HL.out]; exact hlt)
      obtain ⟨b, o, rfl, -, c3⟩ := HZ.out m hlt
      have d2 := HB.out.cell c2 (by simp)
      have d3 := HB.out.cell c3 (by simp)
      rw [← HS.out m x hx] at d3
      have i1 : (0 : Int) ≤ (m : Int) := by omega
      have i2 : (m : Int) < (len : Int) := by omega
      clear hx c2 c3
      go_wp2_with fail
      go_still_tail 9, (by kernel_rfl)
      go_wp2
      go_roundw
      case rel => exact ⟨m + 1, by omega, by go_num, HB.out.drew⟩
      case measure => simp [intOf]; omega
    · obtain rfl : m = len := by omega
      go_wp2
      go_ret
      exact ⟨rfl, HB.out⟩

end Go.Proofs.YtepipmjcfnncdaaFmt
