/- The contracts of n008_50's zzKindB1, zzElemB1, zzFodderB1 .. -/
import Derived.Test.YtnfhhmadkiogbaaFmtFixC
import Derived.WalkSpells
namespace Go.Proofs.YtnfhhmadkiogbaaFmt
open Go.ChangeShapes Go.WideShapes Go.ChangeAt Go.RowKit

/-- The kind that a code tells. -/
def ck (v : Int) : Int := if v % 4294967296 % 3 = 0 then 1 else if v % 4294967296 % 3 = 1 then 0 else 2

set_option maxRecDepth 100000 in
set_option maxHeartbeats 1000000 in
theorem zzKind_any (w : World) (v : Int) :
    Calls Tryf.prog 11 #[.int .i32 v] w fun e w' => e = .returned (.int .i64 (ck v)) ∧ w' = w := by
  by_cases h0 : (v % 4294967296 % 3 == 0) = true
  · have hk : ck v = 1 := by unfold ck; rw [if_pos (by simpa using h0)]
    rw [hk]
    clear hk
    go_enter Tryf.func11, Tryf.ntmps11
    go_wp2_with fail
    go_ret
    exact ⟨rfl, rfl⟩
  · rw [Bool.not_eq_true] at h0
    by_cases h1 : (v % 4294967296 % 3 == 1) = true
    · have hk : ck v = 0 := by unfold ck; rw [if_neg (by simpa using h0), if_pos (by simpa using h1)]
      rw [hk]
      clear hk
      go_enter Tryf.func11, Tryf.ntmps11
      go_wp2_with fail
      go_ret
      exact ⟨rfl, rfl⟩
    · rw [Bool.not_eq_true] at h1
      have hk : ck v = 2 := by unfold ck; rw [if_neg (by simpa using h0), if_neg (by simpa using h1)]
      rw [hk]
      clear hk
      go_enter Tryf.func11, Tryf.ntmps11
      go_wp2_with fail
      go_ret
      exact ⟨rfl, rfl⟩

/-- The element that a code tells. -/
def cfe (v : Int) : FE := ⟨none, 0, 0, ck v, wrap64 (bits .and .u32 (v % 4294967296 / 4) 63), wrap64 (bits .and .u32 (v % 4294967296 / 256) 65535)⟩

set_option maxRecDepth 100000 in
set_option maxHeartbeats 1000000 in
theorem zzElem_any (w : World) (v : Int) :
    Calls Tryf.prog 7 #[.int .i32 v] w fun e w' => e = .returned (.agg #[.slice none 0 0, .int .i64 (cfe v).k, .int .i64 (cfe v).b, .int .i64 (cfe v).i]) ∧ Kept [] w w' := by
  unfold cfe
  dsimp only
  obtain ⟨k, hk⟩ : ∃ k, ck v = k := ⟨_, rfl⟩
  rw [hk]
  have HK := Lib.hid hk; clear hk
  go_enter Tryf.func7, Tryf.ntmps7
  go_wp2_with fail
  refine (zzKind_any _ v).mono ?_
  rintro e w' ⟨rfl, rfl⟩
  rw [HK.out]
  go_wp2_with fail
  exact bodyPost_ret (v := .agg #[.slice none 0 0, .int .i64 k, .int .i64 (wrap64 (bits .and .u32 (v % 4294967296 / 4) 63)), .int .i64 (wrap64 (bits .and .u32 (v % 4294967296 / 256) 65535))]) (by simp [results, Tryf.results7, go_sem]) rfl ⟨rfl, (Kept.refl _ _).alloc _⟩

/-- The first m of n elements are told by z through f, the rest are zero. -/
def gTo (f : Nat → FE) (n m : Nat) : List FE := (List.range n).map fun j => if j < m then f j else FE.zero
theorem gTo_length (f : Nat → FE) (n m : Nat) : (gTo f n m).length = n := by simp [gTo]
theorem gTo_zero (f : Nat → FE) (n : Nat) : gTo f n 0 = List.replicate n FE.zero := by
  apply List.ext_getElem?
  intro j
  simp only [gTo, Nat.not_lt_zero, if_false, List.getElem?_map, List.getElem?_replicate]
  by_cases h : j < n <;> simp [h]
theorem gTo_set (f : Nat → FE) (n m : Nat) (h : m < n) : (gTo f n m).set m (f m) = gTo f n (m + 1) := by
  apply List.ext_getElem?
  intro j
  rw [List.getElem?_set]
  by_cases hj : m = j
  · subst hj
    simp [gTo, h]
  · rw [if_neg hj]
    simp only [gTo, List.getElem?_map]
    by_cases hn : j < n
    · simp only [List.getElem?_range hn, Option.map_some, Option.some.injEq]
      have : (j < m) = (j < m + 1) := by apply propext; omega
      simp only [this]
    · simp [hn]
theorem gTo_full (z : List Int) (n : Nat) (h : n ≤ z.length) : gTo (fun j => cfe (z.getD j 0)) n n = (z.take n).map cfe := by
  apply List.ext_getElem?
  intro j
  simp only [gTo, List.getElem?_map, List.getElem?_take]
  by_cases hj : j < n
  · simp [hj, List.getElem?_eq_getElem (show j < z.length by omega)]
  · simp [hj]

/-- One element is written whole. -/
def put4 (w : World) (g i : Nat) (e : FE) : World :=
  (((w.setCell ⟨g, i * 4, none⟩ (.slice e.ca e.cl e.cc)).setCell ⟨g, i * 4 + 1, none⟩ (.int .i64 e.k)).setCell ⟨g, i * 4 + 2, none⟩ (.int .i64 e.b)).setCell ⟨g, i * 4 + 3, none⟩ (.int .i64 e.i)

theorem Fod.put {w : World} {base : Nat} {g n cap : Nat} {l : List FE} (h : Fod w base (.slice (some ⟨g, 0, none⟩) n cap) l) (i : Nat) (e : FE) (hi : i < l.length) :
    Fod (put4 w g i e) base (.slice (some ⟨g, 0, none⟩) n cap) (l.set i e) := by
  obtain ⟨x, hx⟩ : ∃ x, l[i]? = some x := ⟨_, List.getElem?_eq_getElem hi⟩
  have hget : ∀ (m : List FE) (y : FE), i < m.length → (m.set i y)[i]? = some y := fun m y hm => by rw [List.getElem?_set_self hm]
  have s0 := h.set i x { x with ca := e.ca, cl := e.cl, cc := e.cc } hx 0 (by omega) (.slice e.ca e.cl e.cc) rfl
  have s1 := s0.set i _ { x with ca := e.ca, cl := e.cl, cc := e.cc, k := e.k } (hget _ _ hi) 1 (by omega) (.int .i64 e.k) rfl
  have s2 := s1.set i _ { x with ca := e.ca, cl := e.cl, cc := e.cc, k := e.k, b := e.b } (hget _ _ (by simpa using hi)) 2 (by omega) (.int .i64 e.b) rfl
  have s3 := s2.set i _ e (hget _ _ (by simpa using hi)) 3 (by omega) (.int .i64 e.i) rfl
  simp only [List.set_set] at s3
  exact s3

theorem Kept.put {S : List Nat} {a w : World} (h : Kept S a w) {g i : Nat} (hp : g ∈ S ∨ a.heap.size ≤ g) (e : FE) : Kept S a (put4 w g i e) :=
  (((h.setCell (p := ⟨g, i * 4, none⟩) hp _).setCell (p := ⟨g, i * 4 + 1, none⟩) hp _).setCell (p := ⟨g, i * 4 + 2, none⟩) hp _).setCell (p := ⟨g, i * 4 + 3, none⟩) hp _

set_option maxRecDepth 100000 in
set_option maxHeartbeats 1000000 in
theorem zzFodder_any (w : World) (a : Option Addr) (len cap : Nat) (z : List Int) (h : IsRow .i32 w a len cap z) (hlen : len ≤ 1048576) :
    Calls Tryf.prog 8 #[.slice a len cap] w fun e w' => ∃ v, e = .returned v ∧ Fod w' w.heap.size v ((z.take len).map cfe) ∧ Kept [] w w' := by
  have heq := fun (w : World) (a : Option Addr) (l c : Nat) => Lib.run_eql_slice_nil (P := Tryf.prog) w 22 21 a l c 0 0 Tryf.underlying22
  rcases h with ⟨rfl, rfl, rfl, rfl⟩ | hx
  · go_enter Tryf.func8, Tryf.ntmps8
    go_wp2
    go_ret
    exact ⟨.slice none 0 0, rfl, World.ownsRow_nil _ _ _ _, Kept.refl _ _⟩
  have h : IsRow .i32 w a len cap z := Or.inr hx
  obtain ⟨x, rfl, _⟩ := hx
  obtain ⟨hlc, hcm, hzl, _, hcell⟩ := h.open
  clear h
  have HZ := Lib.hid hzl; clear hzl
  have HC := Lib.hid hcell; clear hcell
  unfold maxLen at hcm
  obtain ⟨i0, hi, hz0, hz1, hz2⟩ := info_parts Tryf.infoFE
  go_enter Tryf.func8, Tryf.ntmps8
  go_wp2_with (at_make; refine wpList_make_full _ rfl _ _ 29 rfl w.heap.size 50 i0 _ 4 Tryf.underlying29 hi hz0 hz1 _ _ _ _ len rfl rfl rfl rfl ?b2 ?b3 (Nat.le_refl _) ?_)
  case b2 => rw [hz2]; omega
  case b3 => unfold maxLen; omega
  intro w1 hown hgrow
  have hf : Fod w1 w.heap.size (.slice (some ⟨w.heap.size, 0, none⟩) len len) (gTo (fun j => cfe (z.getD j 0)) len 0) := by
    unfold Fod
    rw [gTo_length, gTo_zero, ← made_flat]
    exact hown
  have hb : Kept [] w w1 := (Kept.refl _ _).grown hgrow (by simp)
  clear hown hgrow hi hz0 hz1 hz2 heq
  obtain ⟨B, hB⟩ : ∃ B, w.heap.size = B := ⟨_, rfl⟩
  rw [hB] at hf ⊢
  have HBB := Lib.hid hB; clear hB
  have HF := Lib.hid hf; clear hf
  have HB := Lib.hid hb; clear hb
  go_wp2
  go_loopw [4] (fun i wr => ∃ m : Nat, m ≤ len ∧ i = .int .i64 m ∧ Fod wr B (.slice (some ⟨B, 0, none⟩) len len) (gTo (fun j => cfe (z.getD j 0)) len m) ∧ Kept [] w wr) (fun i _ => len - (intOf i).toNat)
  case atStart => exact ⟨0, Nat.zero_le _, rfl, HF.out, HB.out⟩
  case round =>
    clear HF HB
    obtain ⟨m, hm, rfl, hf, hb⟩ := hrel
    have HB := Lib.hid hb; clear hb
    have HF := Lib.hid hf; clear hf
    by_cases hlt : m < len
    · obtain ⟨b, o, hx, hbl, hc⟩ := HC.out m hlt
      obtain rfl : x = ⟨b, o, none⟩ := by simpa using hx
      have hcm := HB.out.cell (hc m (by omega)) (by simp)
      clear hx hc
      obtain ⟨zm, hzm⟩ : ∃ zm, z.getD m 0 = zm := ⟨_, rfl⟩
      rw [hzm] at hcm
      have HZM := Lib.hid hzm; clear hzm
      go_wp2_with fail
      refine (zzElem_any _ zm).mono ?_
      rintro e w2 ⟨rfl, hk2⟩
      have hF2 := HF.out.kept hk2 (by simp)
      obtain ⟨y, hy, q0, q1, q2, q3⟩ := hF2.cells m (by rw [gTo_length]; exact hlt)
      have f0 := hF2.frozen (m * 4)
      have f1 := hF2.frozen (m * 4 + 1)
      have f2 := hF2.frozen (m * 4 + 2)
      have f3 := hF2.frozen (m * 4 + 3)
      have hn := hF2.put m (cfe zm) (by rw [gTo_length]; exact hlt)
      have hset : (gTo (fun j => cfe (z.getD j 0)) len m).set m (cfe (z.getD m 0)) = gTo (fun j => cfe (z.getD j 0)) len (m + 1) := gTo_set (fun j => cfe (z.getD j 0)) len m hlt
      rw [HZM.out] at hset
      rw [hset] at hn
      have hkn : Kept [B] w2 (put4 w2 B m (cfe zm)) := (Kept.refl _ _).put (Or.inl (by simp)) _
      have hcfe : ∃ k b i, cfe zm = ⟨none, 0, 0, k, b, i⟩ := ⟨_, _, _, rfl⟩
      obtain ⟨ck, cb, ci, hce⟩ := hcfe
      rw [hce] at hn hkn ⊢
      unfold put4 at hn hkn
      dsimp only at hn hkn ⊢
      have HN := Lib.hid hn; clear hn
      have HKN := Lib.hid hkn; clear hkn
      have HK2 := Lib.hid hk2; clear hk2
      clear hF2 hset hce hy
      go_wp2_with fail
      exact ⟨⟨m + 1, by omega, by go_num, HN.out, (HB.out.trans HK2.out).then HKN.out (by intro x hx; simp at hx; exact Or.inr (by rw [HBB.out]; omega))⟩, by simp [intOf]; omega⟩
    · obtain rfl : m = len := by omega
      go_wp2_with fail
      go_ret
      rw [HBB.out]
      exact ⟨_, rfl, gTo_full z m (by rw [HZ.out]; omega) ▸ HF.out, HB.out⟩

/-- Do some codes tell a line break? -/
theorem anyNL_cfe_take (z : List Int) (k : Nat) (v : Int) (hv : z[k]? = some v) : anyNL ((z.take (k + 1)).map cfe) = (anyNL ((z.take k).map cfe) || (ck v != 1)) := by
  have : ((z.take (k + 1)).map cfe) = ((z.take k).map cfe) ++ [cfe v] := by rw [List.take_add_one, hv]; simp
  rw [this]
  unfold anyNL
  rw [List.any_append]
  simp [cfe]

set_option maxRecDepth 100000 in
set_option maxHeartbeats 1000000 in
theorem zzCodesBreak_any (w : World) (a : Option Addr) (len cap : Nat) (z : List Int) (h : IsRow .i32 w a len cap z) :
    Calls Tryf.prog 5 #[.slice a len cap] w fun e w' => e = .returned (.bool (anyNL ((z.take len).map cfe))) ∧ w = w' := by
  obtain ⟨hlc, hcm, hzl, _, hcell⟩ := h.open
  clear h
  have HZ := Lib.hid hzl; clear hzl
  have HC := Lib.hid hcell; clear hcell
  unfold maxLen at hcm
  obtain ⟨R, hR⟩ : ∃ R, anyNL ((z.take len).map cfe) = R := ⟨_, rfl⟩
  rw [hR]
  have HR := Lib.hid hR; clear hR
  go_enter Tryf.func5, Tryf.ntmps5
  go_wp2_with fail
  go_loopw [3] (fun i wr => ∃ k : Nat, k ≤ len ∧ i = .int .i64 k ∧ Hid (anyNL ((z.take k).map cfe) = false) ∧ wr = w) (fun i _ => len - (intOf i).toNat)
  case atStart => exact ⟨0, Nat.zero_le _, rfl, Lib.hid rfl, rfl⟩
  case round =>
    obtain ⟨k, hk, rfl, HF, rfl⟩ := hrel
    by_cases hlt : k < len
    · obtain ⟨b, o, rfl, hbl, hc⟩ := HC.out k hlt
      have hcm := hc k (by omega)
      obtain ⟨v, hv⟩ : ∃ v, z.getD k 0 = v := ⟨_, rfl⟩
      rw [hv] at hcm
      have hv' : z[k]? = some v := by
        have : k < z.length := by rw [HZ.out]; omega
        rw [List.getD_eq_getElem?_getD, List.getElem?_eq_getElem this] at hv
        rw [List.getElem?_eq_getElem this]
        simpa using hv
      have HV := Lib.hid hv'; clear hv hv' hc
      obtain ⟨c, hc⟩ : ∃ c, ck v = c := ⟨_, rfl⟩
      have HCK := Lib.hid hc; clear hc
      go_wp2_with fail
      refine (zzKind_any _ v).mono ?_
      rintro e w' ⟨rfl, rfl⟩
      rw [HCK.out]
      by_cases hne : (c != 1) = true
      · go_wp2_with fail
        go_ret
        have h1 := anyNL_cfe_take z k v HV.out
        rw [HCK.out, hne, Bool.or_true] at h1
        have : anyNL ((z.take len).map cfe) = true := by
          unfold anyNL at h1 ⊢
          rw [List.any_eq_true] at h1 ⊢
          obtain ⟨x, hx, hx2⟩ := h1
          refine ⟨x, ?_, hx2⟩
          rw [List.mem_map] at hx ⊢
          obtain ⟨y, hy, rfl⟩ := hx
          refine ⟨y, ?_, rfl⟩
          have : z.take (k + 1) = (z.take len).take (k + 1) := by rw [List.take_take]; congr 1; omega
          rw [this] at hy
          exact List.mem_of_mem_take hy
        rw [HR.out] at this
        exact ⟨by rw [this]; rfl, rfl⟩
      · rw [Bool.not_eq_true] at hne
        go_wp2_with fail
        exact ⟨⟨k + 1, by omega, by go_num, Lib.hid (by rw [anyNL_cfe_take z k v HV.out, HF.out, HCK.out, hne]; rfl), by trivial⟩, by simp [intOf]; omega⟩
    · obtain rfl : k = len := by omega
      go_wp2_with fail
      go_ret
      have := HF.out
      rw [HR.out] at this
      exact ⟨by rw [this]; rfl, rfl⟩

end Go.Proofs.YtnfhhmadkiogbaaFmt
