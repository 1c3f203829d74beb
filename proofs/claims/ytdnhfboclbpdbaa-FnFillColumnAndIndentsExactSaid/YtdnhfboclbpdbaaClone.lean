/- The contract of n008_127's zzCloneInts: the answer reads as the elements of the slice that came in. -/
import Derived.Test.YtdnhfboclbpdbaaCom
import Derived.WalkSpells
namespace Go.Proofs.Ytdnhfboclbpdbaa
open Go.ChangeShapes Go.WideShapes Go.ChangeAt Go.RowKit

/-- The first m of n cells carry the numbers, the rest are zero. -/
def zTo (z : List Int) (n m : Nat) : List Value := (List.range n).map fun j => .int .i64 (if j < m then z.getD j 0 else 0)
theorem zTo_length (z : List Int) (n m : Nat) : (zTo z n m).length = n := by simp [zTo]
theorem zTo_zero (z : List Int) (n : Nat) : zTo z n 0 = List.replicate n (.int .i64 0) := by
  apply List.ext_getElem?
  intro j
  simp only [zTo, Nat.not_lt_zero, if_false, List.getElem?_map, List.getElem?_replicate]
  by_cases h : j < n <;> simp [h]
theorem zTo_set (z : List Int) (n m : Nat) (h : m < n) : (zTo z n m).set m (.int .i64 (z.getD m 0)) = zTo z n (m + 1) := by
  apply List.ext_getElem?
  intro j
  rw [List.getElem?_set]
  by_cases hj : m = j
  · subst hj
    simp [zTo, h]
  · rw [if_neg hj]
    simp only [zTo, List.getElem?_map]
    by_cases hn : j < n
    · simp only [List.getElem?_range hn, Option.map_some, Option.some.injEq]
      have : (j < m) = (j < m + 1) := by apply propext; omega
      simp only [this]
    · simp [hn]

theorem Try.infoInt : (Try.prog.info? 3).map (fun i => (i.zero, i.size, i.bytes)) = some (some (.int .i64 0), 1, 8) := by kernel_rfl

theorem isRow_of_own {w : World} {base g n : Nat} {z : List Int} {ty : TypeId} (h : w.ownsRow base ty 1 (.slice (some ⟨g, 0, none⟩) n n) n (zTo z n n)) (hn : n ≤ maxLen) (hz : n ≤ z.length) (hw : ∀ x ∈ z, (Lit.int .i64 x).wf = true) :
    IsRow .i64 w (some ⟨g, 0, none⟩) n n (z.take n) := by
  refine Or.inr ⟨_, rfl, Nat.le_refl _, hn, by simp; omega, fun i hi => ?_, fun x hx => hw x (List.mem_of_mem_take hx)⟩
  have hi' : i < n := by simp at hi; omega
  have := World.ownsRow.cells h (g := g) rfl i (.int .i64 ((z.take n).getD i 0)) (by
    simp only [zTo, List.getElem?_map, List.getElem?_range hi', Option.map_some, hi', if_true]
    simp [List.getD, hi'])
  exact this

/-- What zzCloneInts leaves. -/
def Cloned (w : World) (len : Nat) (z : List Int) (e : Ending) (w' : World) : Prop :=
  ∃ a c, e = .returned (.slice a len c) ∧ IsRow .i64 w' a len c (z.take len) ∧ Below w.heap.size w w'

set_option maxHeartbeats 400000 in
theorem zzCloneInts_any (w : World) (a : Option Addr) (len cap : Nat) (z : List Int) (h : IsRow .i64 w a len cap z) (hlen : len ≤ 1048576) :
    Calls Try.prog 14 #[.slice a len cap] w (Cloned w len z) := by
  have heq := fun (w : World) (a : Option Addr) (l c : Nat) => Lib.run_eql_slice_nil (P := Try.prog) w 22 3 a l c 0 0 Try.underlying22
  rcases h with ⟨rfl, rfl, rfl, rfl⟩ | hx
  · go_enter Try.func14, Try.ntmps14
    go_wp2
    go_ret
    exact ⟨none, 0, rfl, Or.inl ⟨rfl, rfl, rfl, by simp⟩, Below.refl _ _⟩
  · have h : IsRow .i64 w a len cap z := Or.inr hx
    obtain ⟨x, rfl, _⟩ := hx
    obtain ⟨hlc, hcm, hzl, hwf, hcell⟩ := h.open
    clear h
    have HZ := Lib.hid hzl; clear hzl
    have HW := Lib.hid hwf; clear hwf
    have HC := Lib.hid hcell; clear hcell
    unfold maxLen at hcm
    obtain ⟨i0, hi, hz0, hz1, hz2⟩ := info_parts Try.infoInt
    go_enter Try.func14, Try.ntmps14
    go_wp2_with (at_make; refine wpList_make_full _ rfl _ _ 22 rfl w.heap.size 3 i0 _ 1 Try.underlying22 hi hz0 hz1 _ _ _ _ len rfl rfl rfl rfl ?b2 ?b3 (Nat.le_refl _) ?_)
    case b2 => rw [hz2]; omega
    case b3 => unfold maxLen; omega
    intro w1 hown hgrow
    have hf : w1.ownsRow w.heap.size 3 1 (.slice (some ⟨w.heap.size, 0, none⟩) len len) len (zTo z len 0) := by
      rw [zTo_zero]
      simp only [toList_madeCells_one] at hown
      exact hown
    have hb : Below w.heap.size w w1 := (Below.refl _ _).grown hgrow (Nat.le_refl _) (by simp)
    clear hown hgrow hi hz0 hz1 hz2
    have HF := Lib.hid hf; clear hf
    go_wp2
    go_loopw [4] (fun i wr => ∃ m : Nat, m ≤ len ∧ i = .int .i64 m ∧ wr.ownsRow w.heap.size 3 1 (.slice (some ⟨w.heap.size, 0, none⟩) len len) len (zTo z len m) ∧ Below w.heap.size w wr) (fun i _ => len - (intOf i).toNat)
    case atStart => exact ⟨0, Nat.zero_le _, rfl, HF.out, hb⟩
    case round =>
      clear HF hb
      obtain ⟨m, hm, rfl, hf, hb⟩ := hrel
      by_cases hlt : m < len
      · obtain ⟨b, o, hx, hbl, hc⟩ := HC.out m hlt
        obtain rfl : x = ⟨b, o, none⟩ := by simpa using hx
        have hcm := (hb.cell (p := ⟨b, o + m, none⟩) hbl).trans (hc m (by omega))
        have hcell := World.ownsRow.cellAt hf m (by omega)
        rw [show (zTo z len m)[m]? = some (.int .i64 0) by simp [zTo, hlt]] at hcell
        have hfr := World.ownsRow.frozenAt hf m
        have hf' := (World.ownsRow.stored hf m (.int .i64 (z.getD m 0))).1
        rw [zTo_set z len m hlt] at hf'
        generalize z.getD m 0 = zm at *
        have HF := Lib.hid hf'; clear hf' hf hc hx
        clear HC
        go_wp2
        go_roundw
        case rel => exact ⟨m + 1, by omega, by go_num, HF.out, hb.setCell (Nat.le_refl _) _⟩
        case measure => simp [intOf]; omega
      · obtain rfl : m = len := by omega
        have HF := Lib.hid hf; clear hf
        go_wp2
        go_ret
        exact ⟨_, _, rfl, isRow_of_own HF.out (by unfold maxLen; omega) (by rw [HZ.out]; omega) HW.out, hb⟩
end Go.Proofs.Ytdnhfboclbpdbaa
