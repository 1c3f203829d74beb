/- The contracts of n008_124's zzSnap and zzAfter: a fodder is written down as codes, and held against them. -/
import Derived.Test.YtfacfgecnpeceaaFmtZ4f
import Derived.BigQuiet
namespace Go.Proofs.YtfacfgecnpeceaaFmt
open Go.ChangeShapes Go.WideShapes Go.ChangeAt Go.RowKit

/-- What zzSnap writes of an element. -/
def FE.snap (e : FE) : ZE := ⟨e.k, e.b, e.i, e.cl⟩
def flatZ : List ZE → List Value
  | [] => []
  | e :: l => e.cells ++ flatZ l
theorem flatZ_length (l : List ZE) : (flatZ l).length = l.length * 4 := by
  induction l with
  | nil => rfl
  | cons e l ih => simp only [flatZ, ZE.cells, List.length_append, ih, List.length_cons, List.length_nil]; omega
/-- v is a slice of codes of the call's own that reads as l. -/
def Snp (w : World) (base : Nat) (v : Value) (l : List ZE) : Prop := w.ownsRow base 58 4 v l.length (flatZ l)

theorem Tryf.infoZ : (Tryf.prog.info? 58).map (fun i => (i.zero, i.size, i.bytes)) = some (some (.agg #[.int .i64 0, .int .i64 0, .int .i64 0, .int .i64 0]), 4, 32) := by kernel_rfl

theorem md_id {k : Int} (h : k = 0 ∨ k = 1 ∨ k = 2) : md k = k := by rcases h with rfl | rfl | rfl <;> rfl

theorem flatZ_get (l : List ZE) (i : Nat) (h : i < l.length) (j : Nat) (hj : j < 4) : (flatZ l)[i * 4 + j]? = (l[i].cells)[j]? := by
  induction l generalizing i with
  | nil => simp at h
  | cons e l ih =>
    cases i with
    | zero =>
      simp only [flatZ, Nat.zero_mul, Nat.zero_add, List.getElem_cons_zero]
      rw [List.getElem?_append_left (by simp [ZE.cells]; omega)]
    | succ i =>
      simp only [flatZ, List.getElem_cons_succ]
      rw [List.getElem?_append_right (by simp [ZE.cells]; omega)]
      rw [← ih i (by simpa using h)]
      congr 1
      simp [ZE.cells]; omega

theorem flatZ_set (l : List ZE) (i : Nat) (e e' : ZE) (h : l[i]? = some e) (j : Nat) (hj : j < 4) (u : Value) (hc : e'.cells = e.cells.set j u) :
    (flatZ l).set (i * 4 + j) u = flatZ (l.set i e') := by
  induction l generalizing i with
  | nil => simp at h
  | cons x l ih =>
    cases i with
    | zero =>
      simp only [List.getElem?_cons_zero, Option.some.injEq] at h
      subst h
      simp only [flatZ, Nat.zero_mul, Nat.zero_add, List.set_cons_zero]
      rw [List.set_append_left _ _ (by simp [ZE.cells]; omega), hc]
    | succ i =>
      simp only [List.getElem?_cons_succ] at h
      simp only [flatZ, List.set_cons_succ]
      rw [List.set_append_right _ _ (by simp [ZE.cells]; omega), ← ih i h]
      congr 2
      simp [ZE.cells]; omega

def ZE.zero : ZE := ⟨0, 0, 0, 0⟩
theorem made_flatZ (n : Nat) : (madeCells #[.int .i64 0, .int .i64 0, .int .i64 0, .int .i64 0] (n * 4)).toList = flatZ (List.replicate n ZE.zero) := by
  apply List.ext_getElem?
  intro j
  by_cases hj : j < n * 4
  · have e : j = (j / 4) * 4 + j % 4 := by omega
    have h4 : j % 4 < 4 := Nat.mod_lt _ (by omega)
    have hl : (flatZ (List.replicate n ZE.zero))[j]? = ZE.zero.cells[j % 4]? := by
      have := flatZ_get (List.replicate n ZE.zero) (j / 4) (by simp; omega) (j % 4) h4
      rw [← e] at this
      simpa using this
    rw [hl]
    simp only [madeCells, Array.toList_map, List.getElem?_map, Array.toList_range]
    rw [List.getElem?_range hj]
    simp only [Option.map_some, List.size_toArray, List.length_cons, List.length_nil]
    generalize j % 4 = r at h4
    match r, h4 with
    | 0, _ => rfl
    | 1, _ => rfl
    | 2, _ => rfl
    | 3, _ => rfl
  · rw [List.getElem?_eq_none (by simp [madeCells]; omega), List.getElem?_eq_none (by rw [flatZ_length]; simp; omega)]

theorem Snp.slice {w : World} {base : Nat} {v : Value} {l : List ZE} (h : Snp w base v l) :
    ∃ a cap, v = .slice a l.length cap ∧ l.length ≤ cap ∧ cap ≤ maxLen ∧ ∀ i, i < l.length → ∃ g, a = some ⟨g, 0, none⟩ ∧ base ≤ g ∧ g < w.heap.size := by
  obtain ⟨_, h | ⟨g, cap, cur, hv, hb, hg, hn, hc, _⟩⟩ := h
  · obtain ⟨rfl, h0⟩ := h
    refine ⟨none, 0, by rw [h0], by omega, by unfold maxLen; omega, fun i hi => by omega⟩
  · exact ⟨some ⟨g, 0, none⟩, cap, hv, hn, hc, fun _ _ => ⟨g, rfl, hb, (Array.getElem?_eq_some_iff.1 hg).1⟩⟩
theorem Snp.cells {w : World} {base : Nat} {g n cap : Nat} {l : List ZE} (h : Snp w base (.slice (some ⟨g, 0, none⟩) n cap) l) (i : Nat) (hi : i < l.length) :
    ∃ e, l[i]? = some e ∧ w.cell? ⟨g, i * 4, none⟩ = some (.int .i64 e.k) ∧ w.cell? ⟨g, i * 4 + 1, none⟩ = some (.int .i64 e.b) ∧
    w.cell? ⟨g, i * 4 + 2, none⟩ = some (.int .i64 e.i) ∧ w.cell? ⟨g, i * 4 + 3, none⟩ = some (.int .i64 e.c) := by
  have key : ∀ j u, (flatZ l)[j]? = some u → w.cell? ⟨g, j, none⟩ = some u := by
    intro j u hu
    have := World.ownsRow.cells h (g := g) rfl j u hu
    rwa [add_off, Nat.zero_add] at this
  refine ⟨l[i], List.getElem?_eq_getElem hi, key _ _ ?_, key _ _ ?_, key _ _ ?_, key _ _ ?_⟩
  · have := flatZ_get l i hi 0 (by omega); simpa [ZE.cells] using this
  · have := flatZ_get l i hi 1 (by omega); simpa [ZE.cells] using this
  · have := flatZ_get l i hi 2 (by omega); simpa [ZE.cells] using this
  · have := flatZ_get l i hi 3 (by omega); simpa [ZE.cells] using this
theorem Snp.len {w : World} {base : Nat} {a : Option Addr} {n cap : Nat} {l : List ZE} (h : Snp w base (.slice a n cap) l) : n = l.length := by
  obtain ⟨a', cap', hv, _⟩ := h.slice
  injection hv
theorem Snp.frozen {w : World} {base : Nat} {g n cap : Nat} {l : List ZE} (h : Snp w base (.slice (some ⟨g, 0, none⟩) n cap) l) (j : Nat) : w.frozen? ⟨g, j, none⟩ = false := by
  obtain rfl := h.len
  exact World.ownsRow.frozenAt h j
theorem Snp.kept {S : List Nat} {w w' : World} {base : Nat} {v : Value} {l : List ZE} (h : Snp w base v l) (hk : Kept S w w') (hn : ∀ g, v.ownBlock = some g → g ∉ S) : Snp w' base v l :=
  hk.row h hn

/-- One code is written whole. -/
def putZ (w : World) (g i : Nat) (e : ZE) : World :=
  (((w.setCell ⟨g, i * 4, none⟩ (.int .i64 e.k)).setCell ⟨g, i * 4 + 1, none⟩ (.int .i64 e.b)).setCell ⟨g, i * 4 + 2, none⟩ (.int .i64 e.i)).setCell ⟨g, i * 4 + 3, none⟩ (.int .i64 e.c)
theorem Snp.set {w : World} {base : Nat} {g n cap : Nat} {l : List ZE} (h : Snp w base (.slice (some ⟨g, 0, none⟩) n cap) l) (i : Nat) (e e' : ZE) (he : l[i]? = some e)
    (j : Nat) (hj : j < 4) (u : Value) (hc : e'.cells = e.cells.set j u) : Snp (w.setCell ⟨g, i * 4 + j, none⟩ u) base (.slice (some ⟨g, 0, none⟩) n cap) (l.set i e') := by
  obtain rfl := h.len
  have := (World.ownsRow.stored h (i * 4 + j) u).1
  rw [flatZ_set l i e e' he j hj u hc] at this
  unfold Snp
  rw [List.length_set]
  exact this
theorem Snp.put {w : World} {base : Nat} {g n cap : Nat} {l : List ZE} (h : Snp w base (.slice (some ⟨g, 0, none⟩) n cap) l) (i : Nat) (e : ZE) (hi : i < l.length) :
    Snp (putZ w g i e) base (.slice (some ⟨g, 0, none⟩) n cap) (l.set i e) := by
  obtain ⟨x, hx⟩ : ∃ x, l[i]? = some x := ⟨_, List.getElem?_eq_getElem hi⟩
  have hget : ∀ (m : List ZE) (y : ZE), i < m.length → (m.set i y)[i]? = some y := fun m y hm => by rw [List.getElem?_set_self hm]
  have s0 := h.set i x { x with k := e.k } hx 0 (by omega) (.int .i64 e.k) rfl
  have s1 := s0.set i _ { x with k := e.k, b := e.b } (hget _ _ hi) 1 (by omega) (.int .i64 e.b) rfl
  have s2 := s1.set i _ { x with k := e.k, b := e.b, i := e.i } (hget _ _ (by simpa using hi)) 2 (by omega) (.int .i64 e.i) rfl
  have s3 := s2.set i _ e (hget _ _ (by simpa using hi)) 3 (by omega) (.int .i64 e.c) rfl
  simp only [List.set_set] at s3
  exact s3
theorem Kept.putZ {S : List Nat} {a w : World} (h : Kept S a w) {g i : Nat} (hp : g ∈ S ∨ a.heap.size ≤ g) (e : ZE) : Kept S a (putZ w g i e) :=
  (((h.setCell (p := ⟨g, i * 4, none⟩) hp _).setCell (p := ⟨g, i * 4 + 1, none⟩) hp _).setCell (p := ⟨g, i * 4 + 2, none⟩) hp _).setCell (p := ⟨g, i * 4 + 3, none⟩) hp _

/-- The first m of n codes are told by l, the rest are zero. -/
def sTo (l : List FE) (n m : Nat) : List ZE := (List.range n).map fun j => if j < m then (match l[j]? with | some e => e.snap | none => ZE.zero) else ZE.zero
theorem sTo_length (l : List FE) (n m : Nat) : (sTo l n m).length = n := by simp [sTo]
theorem sTo_zero (l : List FE) (n : Nat) : sTo l n 0 = List.replicate n ZE.zero := by
  apply List.ext_getElem?
  intro j
  simp only [sTo, Nat.not_lt_zero, if_false, List.getElem?_map, List.getElem?_replicate]
  by_cases h : j < n <;> simp [h]
theorem sTo_set (l : List FE) (n m : Nat) (e : FE) (he : l[m]? = some e) (h : m < n) : (sTo l n m).set m e.snap = sTo l n (m + 1) := by
  apply List.ext_getElem?
  intro j
  rw [List.getElem?_set]
  by_cases hj : m = j
  · subst hj
    simp [sTo, h, he]
  · rw [if_neg hj]
    simp only [sTo, List.getElem?_map]
    by_cases hn : j < n
    · simp only [List.getElem?_range hn, Option.map_some, Option.some.injEq]
      have : (j < m) = (j < m + 1) := by apply propext; omega
      simp only [this]
    · simp [hn]
theorem sTo_full (l : List FE) : sTo l l.length l.length = l.map FE.snap := by
  apply List.ext_getElem?
  intro j
  simp only [sTo, List.getElem?_map]
  by_cases hj : j < l.length
  · simp [hj]
  · simp [hj]

set_option maxRecDepth 100000 in
set_option maxHeartbeats 2000000 in
theorem zzSnap_any (w : World) (base : Nat) (v : Value) (l : List FE) (h : Fod w base v l) (hk : Kinds l) (hlen : l.length ≤ 2097152) :
    Calls Tryf.prog 11 #[v] w fun e w' => ∃ v', e = .returned v' ∧ Snp w' w.heap.size v' (l.map FE.snap) ∧ Kept [] w w' := by
  obtain ⟨a, cap, rfl, hlc, hcm, ha⟩ := h.slice
  unfold maxLen at hcm
  obtain ⟨n, hn⟩ : ∃ n, l.length = n := ⟨_, rfl⟩
  have H := Lib.hid h; clear h
  have HA := Lib.hid ha; clear ha
  have HK := Lib.hid hk; clear hk
  rw [hn] at hlc hlen ⊢
  have HN := Lib.hid hn; clear hn
  obtain ⟨i0, hi, hz0, hz1, hz2⟩ := info_parts Tryf.infoZ
  go_enter Tryf.func11, Tryf.ntmps11
  go_wp2_with (at_make; refine wpList_make_full _ rfl _ _ 23 rfl w.heap.size 58 i0 _ 4 Tryf.underlying23 hi hz0 hz1 _ _ _ _ n rfl rfl rfl rfl ?b2 ?b3 (Nat.le_refl _) ?_)
  case b2 => rw [hz2]; omega
  case b3 => unfold maxLen; omega
  intro w1 hown hgrow
  have hf : Snp w1 w.heap.size (.slice (some ⟨w.heap.size, 0, none⟩) n n) (sTo l n 0) := by
    unfold Snp
    rw [sTo_length, sTo_zero, ← made_flatZ]
    exact hown
  have hb : Kept [] w w1 := (Kept.refl _ _).grown hgrow (by simp)
  clear hown hgrow hi hz0 hz1 hz2
  obtain ⟨B, hB⟩ : ∃ B, w.heap.size = B := ⟨_, rfl⟩
  rw [hB] at hf ⊢
  have HBB := Lib.hid hB; clear hB
  have HF := Lib.hid hf; clear hf
  have HB := Lib.hid hb; clear hb
  go_wp2
  go_loopw [4] (fun i wr => ∃ m : Nat, m ≤ n ∧ i = .int .i64 m ∧ Snp wr B (.slice (some ⟨B, 0, none⟩) n n) (sTo l n m) ∧ Kept [] w wr) (fun i _ => n - (intOf i).toNat)
  case atStart => exact ⟨0, Nat.zero_le _, rfl, HF.out, HB.out⟩
  case round =>
    clear HF HB
    obtain ⟨m, hm, rfl, hf, hb⟩ := hrel
    have HB := Lib.hid hb; clear hb
    by_cases hlt : m < n
    · obtain ⟨g, rfl, hg1, hg2⟩ := HA.out m (by rw [HN.out]; exact hlt)
      obtain ⟨e, he, c0, c1, c2, c3⟩ := (H.out.kept HB.out (by simp)).cells m (by rw [HN.out]; exact hlt)
      have hke := HK.out.at he
      have hn := hf.put m e.snap (by rw [sTo_length]; exact hlt)
      rw [sTo_set l n m e he hlt] at hn
      obtain ⟨y, hy, q0, q1, q2, q3⟩ := hf.cells m (by rw [sTo_length]; exact hlt)
      have f0 := hf.frozen (m * 4)
      have f1 := hf.frozen (m * 4 + 1)
      have f2 := hf.frozen (m * 4 + 2)
      have f3 := hf.frozen (m * 4 + 3)
      have hkf : Kept [] w (putZ wr B m e.snap) := HB.out.putZ (Or.inr (by rw [HBB.out]; exact Nat.le_refl _)) _
      unfold putZ FE.snap at hn hkf
      dsimp only at hn hkf
      have HKF := Lib.hid hkf.drew; clear hkf
      have HNF := Lib.hid (hn.kept (Kept.refl [] _).drew (by simp)); clear hn
      have HKE := Lib.hid hke; clear hke
      clear hy he hf
      have i1 : (0 : Int) ≤ (m : Int) := by omega
      have i2 : (m : Int) < (n : Int) := by omega
      go_wp2_with fail
      go_still_tail 26, (by kernel_rfl)
      still_call (zzKindMode_still _ e.k HKE.out)
      repeat still_step
      refine wpStill_nil ?_
      go_wp2_with fail
      exact ⟨⟨m + 1, by omega, by go_num, HNF.out, HKF.out⟩, by simp [intOf]; omega⟩
    · obtain rfl : m = n := by omega
      go_wp2
      go_ret
      rw [HBB.out]
      have hful : sTo l m m = l.map FE.snap := by rw [← HN.out]; exact sTo_full l
      exact ⟨_, rfl, hful ▸ hf, HB.out⟩

/-- Two blocks laid one behind the other. -/
theorem alloc2_cells (w : World) (xs ys : Array Value) (s t : TypeId) :
    ∃ W, (w.alloc (.cells xs s)).alloc (.cells ys t) = W ∧ Kept [] w W ∧ (∀ j, W.cell? ⟨w.heap.size, j, none⟩ = xs[j]?) ∧ ∀ j, W.cell? ⟨w.heap.size + 1, j, none⟩ = ys[j]? := by
  refine ⟨_, rfl, ((Kept.refl [] w).alloc _).alloc _, fun j => ?_, fun j => ?_⟩
  · exact cell_of_block (((Kept.refl [] (w.alloc (.cells xs s))).alloc (.cells ys t)).heap (heap_alloc_new w (.cells xs s)) (by simp)) j
  · have := heap_alloc_new (w.alloc (.cells xs s)) (.cells ys t)
    rw [show (w.alloc (.cells xs s)).heap.size = w.heap.size + 1 by simp] at this
    exact cell_of_block this j

set_option maxRecDepth 100000 in
set_option maxHeartbeats 2000000 in
theorem zzAfter_same (w : World) (base base' : Nat) (v v' : Value) (l : List FE) (h : Fod w base v l) (h' : Snp w base' v' (l.map FE.snap)) (hk : Kinds l) :
    Calls Tryf.prog 14 #[v, v', .bool false] w fun e w' => e = .returned (.bool true) ∧ Kept [] w w' := by
  obtain ⟨a, cap, rfl, hlc, hcm, ha⟩ := h.slice
  obtain ⟨a', cap', rfl, hlc', hcm', ha'⟩ := h'.slice
  unfold maxLen at hcm hcm'
  obtain ⟨n, hn⟩ : ∃ n, l.length = n := ⟨_, rfl⟩
  have hn' : (l.map FE.snap).length = n := by rw [List.length_map]; exact hn
  have H := Lib.hid h; clear h
  have H' := Lib.hid h'; clear h'
  have HA := Lib.hid ha; clear ha
  have HA' := Lib.hid ha'; clear ha'
  have HK := Lib.hid hk; clear hk
  rw [hn] at hlc ⊢
  rw [hn'] at hlc' ⊢
  have HN := Lib.hid hn; clear hn
  have HN' := Lib.hid hn'; clear hn'
  go_enter Tryf.func14, Tryf.ntmps14
  go_wp2
  go_loopw [9] (fun i wr => ∃ m : Nat, m ≤ n ∧ i = .int .i64 m ∧ Kept [] w wr) (fun i _ => n - (intOf i).toNat)
  case atStart => exact ⟨0, Nat.zero_le _, rfl, Kept.refl _ _⟩
  case round =>
    obtain ⟨m, hm, rfl, hb⟩ := hrel
    have HB := Lib.hid hb; clear hb
    by_cases hlt : m < n
    · obtain ⟨g, rfl, hg1, hg2⟩ := HA.out m (by rw [HN.out]; exact hlt)
      obtain ⟨g', rfl, hg1', hg2'⟩ := HA'.out m (by rw [HN'.out]; exact hlt)
      obtain ⟨e, he, c0, c1, c2, c3⟩ := (H.out.kept HB.out (by simp)).cells m (by rw [HN.out]; exact hlt)
      obtain ⟨z, hz, d0, d1, d2, d3⟩ := (H'.out.kept HB.out (by simp)).cells m (by rw [HN'.out]; exact hlt)
      have hke := HK.out.at he
      obtain rfl : e.snap = z := by rw [List.getElem?_map, he] at hz; simpa using hz
      unfold FE.snap at d0 d1 d2 d3
      dsimp only at d0 d1 d2 d3
      have hmd := md_id hke
      have al := fun (o : Obj) => (Kept.refl [] wr).alloc o
      have D0 := fun o => (al o).cell d0 (by simp)
      have D1 := fun o => (al o).cell d1 (by simp)
      have D2 := fun o => (al o).cell d2 (by simp)
      have D3 := fun o => (al o).cell d3 (by simp)
      clear al d0 d1 d2 d3
      have HKE := Lib.hid hke; clear hke
      clear he hz
      go_wp2_with fail
      obtain ⟨W, hW, kW, hA, hB⟩ := alloc2_cells wr #[.slice e.ca e.cl e.cc, .int .i64 e.k, .int .i64 e.b, .int .i64 e.i] #[.int .i64 e.k, .int .i64 e.b, .int .i64 e.i, .int .i64 e.cl] 87 58
      rw [hW]
      have a0 := hA 0
      have a1 := hA 1
      have a2 := hA 2
      have a3 := hA 3
      have b0 := hB 0
      have b1 := hB 1
      have b2 := hB 2
      have b3 := hB 3
      simp only [List.getElem?_toArray, List.getElem?_cons_zero, List.getElem?_cons_succ] at a0 a1 a2 a3 b0 b1 b2 b3
      have HKW := Lib.hid (HB.out.trans kW).drew
      clear hW kW hA hB D0 D1 D2 D3 c0 c1 c2 c3
      go_still_tail 28, (by kernel_rfl)
      still_call (zzMode_still _ e.k)
      rw [hmd]
      still_call (zzFodderKind_still _ e.k HKE.out)
      repeat still_step
      refine wpStill_nil ?_
      go_wp2_with fail
      exact ⟨⟨m + 1, by omega, by go_num, HKW.out⟩, by simp [intOf]; omega⟩
    · obtain rfl : m = n := by omega
      go_wp2
      go_ret
      exact ⟨rfl, HB.out⟩
end Go.Proofs.YtfacfgecnpeceaaFmt
