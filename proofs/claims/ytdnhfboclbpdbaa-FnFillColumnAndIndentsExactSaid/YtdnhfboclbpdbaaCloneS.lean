/- The contract of n008_127's zzCloneStrings, and of zzOutOfSize; the frame's word for a slice of strings. -/
import Derived.Test.YtdnhfboclbpdbaaBuild
import Derived.WalkSpells
import Derived.SliceStrings
namespace Go.Proofs.Ytdnhfboclbpdbaa
open Go.ChangeShapes Go.WideShapes Go.ChangeAt Go.RowKit

theorem open_strs {H : Type} {enc : TypeId × Value → H} {w : World} {fuel : Nat} {a : Option Addr} {len cap : Nat} {x : DataW H × List MemPlace}
    (h : DataW.trod enc Try.prog w 0 (fun _ => true) true fuel 44 [.slice a len cap] = some x) : ∃ ss, IsStrs w a len cap ss := by
  rcases open_strings Try.underlying44 Try.underlying9 (by kernel_rfl) h with ⟨hcs, _⟩ | ⟨y, l, c, ss, hcs, _, hl, hm, hz, _, hcell, hws⟩
  · simp at hcs
    obtain ⟨rfl, rfl, rfl⟩ := hcs
    exact ⟨[], .inl ⟨rfl, rfl, rfl, rfl⟩⟩
  · simp at hcs
    obtain ⟨rfl, rfl, rfl⟩ := hcs
    exact ⟨ss, .inr ⟨_, rfl, hl, hm, by simpa using hz, hcell, hws⟩⟩

def sTo (z : List ByteArray) (n m : Nat) : List Value := (List.range n).map fun j => .string (if j < m then z.getD j ByteArray.empty else ByteArray.empty)
theorem sTo_zero (z : List ByteArray) (n : Nat) : sTo z n 0 = List.replicate n (.string ByteArray.empty) := by
  apply List.ext_getElem?
  intro j
  simp only [sTo, Nat.not_lt_zero, if_false, List.getElem?_map, List.getElem?_replicate]
  by_cases h : j < n <;> simp [h]
theorem sTo_set (z : List ByteArray) (n m : Nat) (h : m < n) : (sTo z n m).set m (.string (z.getD m ByteArray.empty)) = sTo z n (m + 1) := by
  apply List.ext_getElem?
  intro j
  rw [List.getElem?_set]
  by_cases hj : m = j
  · subst hj
    simp [sTo, h]
  · rw [if_neg hj]
    simp only [sTo, List.getElem?_map]
    by_cases hn : j < n
    · simp only [List.getElem?_range hn, Option.map_some, Option.some.injEq]
      have : (j < m) = (j < m + 1) := by apply propext; omega
      simp only [this]
    · simp [hn]

theorem Try.infoStr : (Try.prog.info? 9).map (fun i => (i.zero, i.size, i.bytes)) = some (some (.string ByteArray.empty), 1, 16) := by kernel_rfl

theorem isStrs_of_own {w : World} {base g n : Nat} {z : List ByteArray} {ty : TypeId} (h : w.ownsRow base ty 1 (.slice (some ⟨g, 0, none⟩) n n) n (sTo z n n)) (hn : n ≤ maxLen) (hz : n ≤ z.length) (hw : ∀ x ∈ z, x.size ≤ maxLen) :
    IsStrs w (some ⟨g, 0, none⟩) n n (z.take n) := by
  refine Or.inr ⟨_, rfl, Nat.le_refl _, hn, by simp; omega, fun i hi => ?_, fun x hx => hw x (List.mem_of_mem_take hx)⟩
  have hi' : i < n := by simp at hi; omega
  have := World.ownsRow.cells h (g := g) rfl i (.string ((z.take n).getD i ByteArray.empty)) (by
    simp only [sTo, List.getElem?_map, List.getElem?_range hi', Option.map_some, hi', if_true]
    simp [List.getD, hi'])
  exact this

/-- What zzCloneStrings leaves. -/
def ClonedS (w : World) (len : Nat) (z : List ByteArray) (e : Ending) (w' : World) : Prop :=
  ∃ a c, e = .returned (.slice a len c) ∧ IsStrs w' a len c (z.take len) ∧ Below w.heap.size w w'

set_option maxHeartbeats 400000 in
theorem zzCloneStrings_any (w : World) (a : Option Addr) (len cap : Nat) (z : List ByteArray) (h : IsStrs w a len cap z) (hlen : len ≤ 1048576) :
    Calls Try.prog 36 #[.slice a len cap] w (ClonedS w len z) := by
  have heq := fun (w : World) (a : Option Addr) (l c : Nat) => Lib.run_eql_slice_nil (P := Try.prog) w 44 9 a l c 0 0 Try.underlying44
  rcases h with ⟨rfl, rfl, rfl, rfl⟩ | hx
  · go_enter Try.func36, Try.ntmps36
    go_wp2
    go_ret
    exact ⟨none, 0, rfl, Or.inl ⟨rfl, rfl, rfl, by simp⟩, Below.refl _ _⟩
  · have h : IsStrs w a len cap z := Or.inr hx
    obtain ⟨x, rfl, _⟩ := hx
    obtain ⟨hlc, hcm, hzl, hwf, hcell⟩ := h.open
    clear h
    have HZ := Lib.hid hzl; clear hzl
    have HW := Lib.hid hwf; clear hwf
    have HC := Lib.hid hcell; clear hcell
    unfold maxLen at hcm
    obtain ⟨i0, hi, hz0, hz1, hz2⟩ := info_parts Try.infoStr
    go_enter Try.func36, Try.ntmps36
    go_wp2_with (at_make; refine wpList_make_full _ rfl _ _ 44 rfl w.heap.size 9 i0 _ 1 Try.underlying44 hi hz0 hz1 _ _ _ _ len rfl rfl rfl rfl ?b2 ?b3 (Nat.le_refl _) ?_)
    case b2 => rw [hz2]; omega
    case b3 => unfold maxLen; omega
    intro w1 hown hgrow
    have hf : w1.ownsRow w.heap.size 9 1 (.slice (some ⟨w.heap.size, 0, none⟩) len len) len (sTo z len 0) := by
      rw [sTo_zero]
      simp only [toList_madeCells_one] at hown
      exact hown
    have hb : Below w.heap.size w w1 := (Below.refl _ _).grown hgrow (Nat.le_refl _) (by simp)
    clear hown hgrow hi hz0 hz1 hz2 heq
    have HF := Lib.hid hf; clear hf
    go_wp2
    go_loopw [4] (fun i wr => ∃ m : Nat, m ≤ len ∧ i = .int .i64 m ∧ wr.ownsRow w.heap.size 9 1 (.slice (some ⟨w.heap.size, 0, none⟩) len len) len (sTo z len m) ∧ Below w.heap.size w wr) (fun i _ => len - (intOf i).toNat)
    case atStart => exact ⟨0, Nat.zero_le _, rfl, HF.out, hb⟩
    case round =>
      clear HF hb
      obtain ⟨m, hm, rfl, hf, hb⟩ := hrel
      by_cases hlt : m < len
      · obtain ⟨b, o, hx, hbl, hc⟩ := HC.out m hlt
        obtain rfl : x = ⟨b, o, none⟩ := by simpa using hx
        have hcm := (hb.cell (p := ⟨b, o + m, none⟩) hbl).trans (hc m (by omega))
        have hcell := World.ownsRow.cellAt hf m (by omega)
        rw [show (sTo z len m)[m]? = some (.string ByteArray.empty) by simp [sTo, hlt]] at hcell
        have hfr := World.ownsRow.frozenAt hf m
        have hf' := (World.ownsRow.stored hf m (.string (z.getD m ByteArray.empty))).1
        rw [sTo_set z len m hlt] at hf'
        generalize z.getD m ByteArray.empty = zm at *
        have HF := Lib.hid hf'; clear hf' hf hc hx
        clear HC
        go_wp2
        go_roundw
        case rel => exact ⟨m + 1, by omega, by go_num, HF.out, hb.setCell (Nat.le_refl _) _⟩
        case measure => simp [intOf]; omega
      · obtain rfl : m = len := by omega
        have HF := Lib.hid hf; clear hf
        go_wp2
        go_ret
        exact ⟨_, _, rfl, isStrs_of_own HF.out (by unfold maxLen; omega) (by rw [HZ.out]; omega) HW.out, hb⟩

/-- It returns some bool; where that is false the first slice is short. -/
def OutB (w : World) (n n2 : Nat) (e : Ending) (w' : World) : Prop := ∃ b : Bool, e = .returned (.bool b) ∧ (b = false → n ≤ 65536 ∧ n2 ≤ 65536) ∧ w = w'
def OutB3 (w : World) (n n1 n2 : Nat) (e : Ending) (w' : World) : Prop := ∃ b : Bool, e = .returned (.bool b) ∧ (b = false → n ≤ 65536 ∧ n1 ≤ 65536 ∧ n2 ≤ 65536) ∧ w = w'

set_option maxRecDepth 100000 in
set_option maxHeartbeats 1000000 in
theorem zzOutOfSize3_any (w : World) (a : Option Addr) (len cap : Nat) (a1 : Option Addr) (len1 cap1 : Nat) (a2 : Option Addr) (len2 cap2 : Nat) (ss : List ByteArray)
    (h0 : len ≤ 9223372036854775807) (h1 : len1 ≤ 9223372036854775807) (h : IsStrs w a2 len2 cap2 ss) :
    Calls Try.prog 35 #[.slice a len cap, .slice a1 len1 cap1, .slice a2 len2 cap2] w (OutB3 w len len1 len2) := by
  obtain ⟨hlc, hcm, hzl, hwf, hcell⟩ := h.open
  clear h
  have HZ := Lib.hid hzl; clear hzl
  have HW := Lib.hid hwf; clear hwf
  have HC := Lib.hid hcell; clear hcell
  unfold maxLen at hcm
  by_cases c0 : 65536 < len
  · go_enter Try.func35, Try.ntmps35
    go_wp2
    go_ret
    exact ⟨true, rfl, (fun h => by cases h), rfl⟩
  by_cases c1 : 65536 < len1
  · go_enter Try.func35, Try.ntmps35
    go_wp2
    go_ret
    exact ⟨true, rfl, (fun h => by cases h), rfl⟩
  by_cases c2 : 65536 < len2
  · go_enter Try.func35, Try.ntmps35
    go_wp2
    go_ret
    exact ⟨true, rfl, (fun h => by cases h), rfl⟩
  go_enter Try.func35, Try.ntmps35
  go_wp2
  go_loop [7, 8] (fun c i => ∃ (n : Int) (m : Nat), m ≤ len2 ∧ i = .int .i64 m ∧ c = .int .i64 n) (fun _ i => len2 - (intOf i).toNat)
  case atStart => exact ⟨_, 0, Nat.zero_le _, rfl, rfl⟩
  case round =>
    obtain ⟨n, m, hm, rfl, rfl⟩ := hrel
    by_cases hlt : m < len2
    · obtain ⟨b, o, rfl, hbl, hc⟩ := HC.out m hlt
      have hcm := hc m (by omega)
      generalize ss.getD m ByteArray.empty = sm at *
      clear hc HC
      go_wp2
      · go_ret
        exact ⟨true, rfl, (fun h => by cases h), rfl⟩
      · go_round
        case rel => exact ⟨_, m + 1, by omega, by go_num, rfl⟩
        case measure => simp [intOf]; omega
    · clear HC
      go_wp2
      go_ret
      exact ⟨_, rfl, fun _ => ⟨by omega, by omega, by omega⟩, rfl⟩

theorem zzOutOfSize_any (w : World) (a : Option Addr) (len cap : Nat) (a1 : Option Addr) (len1 cap1 : Nat) (a2 : Option Addr) (len2 cap2 : Nat) (ss : List ByteArray)
    (h0 : len ≤ 9223372036854775807) (h1 : len1 ≤ 9223372036854775807) (h : IsStrs w a2 len2 cap2 ss) :
    Calls Try.prog 35 #[.slice a len cap, .slice a1 len1 cap1, .slice a2 len2 cap2] w (OutB w len len2) :=
  (zzOutOfSize3_any w a len cap a1 len1 cap1 a2 len2 cap2 ss h0 h1 h).mono fun _ _ ⟨b, h1, h2, h3⟩ => ⟨b, h1, fun hb => ⟨(h2 hb).1, (h2 hb).2.2⟩, h3⟩
end Go.Proofs.Ytdnhfboclbpdbaa
