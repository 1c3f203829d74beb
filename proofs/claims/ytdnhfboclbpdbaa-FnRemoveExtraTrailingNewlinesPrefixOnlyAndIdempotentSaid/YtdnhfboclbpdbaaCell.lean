/- n008_176: slices of fodder cells that came in, and the contracts of kindOfFmtB2, toFodderFmtB2, removeExtraTrailingNewlines. -/
import Derived.Test.YtdnhfboclbpdbaaSl
import Derived.Test.YtdnhfboclbpdbaaBuild
import Derived.StillTailTactics
namespace Go.Proofs.Ytdnhfboclbpdbaa
open Go.ChangeShapes Go.WideShapes Go.ChangeAt Go.RowKit

/-- kind code, blanks, indent -/
structure Cel where
  k : Int
  b : Int
  i : Int
  deriving Inhabited
def RCel (_ : World) (cs : List Value) (d : Cel) : Prop := cs = [.int .u8 d.k, .int .i64 d.b, .int .i64 d.i] ∧ 0 ≤ d.k ∧ d.k ≤ 255
def IsCels := IsSl 3 RCel

set_option maxRecDepth 100000 in
theorem open_cels {H : Type} {enc : TypeId × Value → H} {w : World} {fuel : Nat} {a : Option Addr} {len cap : Nat} {x : DataW H × List MemPlace}
    (h : DataW.trod enc Try.prog w 0 (fun _ => true) true fuel 38 [.slice a len cap] = some x) : ∃ ds, IsCels w a len cap ds := by
  refine open_sl Try.underlying38 (by kernel_rfl) (by omega) RCel ?_ h
  intro n cs y hy
  obtain ⟨y0, y1, y2, m, _, hl, h0, h1, h2⟩ := Go.Deep.trod_struct3 Try.underlying43 hy
  have hc : Try.prog.cellsOf 43 = 3 := by kernel_rfl
  have e5 : Try.prog.cellsOf 5 = 1 := by kernel_rfl
  have e3 : Try.prog.cellsOf 3 = 1 := by kernel_rfl
  rw [hc] at hl
  match cs, hl with
  | [c0, c1, c2], _ =>
    simp only [e5, e3, List.drop_zero, List.drop_succ_cons, List.take_succ_cons, List.take_zero] at h0 h1 h2
    obtain ⟨x0, q0, _, w0⟩ := DataW.trod_int Try.underlying5 h0
    obtain ⟨x1, q1, _, _⟩ := DataW.trod_int Try.underlying3 h1
    obtain ⟨x2, q2, _, _⟩ := DataW.trod_int Try.underlying3 h2
    simp at q0 q1 q2
    subst q0 q1 q2
    have hb : 0 ≤ x0 ∧ x0 ≤ 255 := by simpa [Lit.wf, IntKind.min, IntKind.max, IntKind.signed, IntKind.bits] using w0
    exact ⟨⟨x0, x1, x2⟩, rfl, hb⟩

theorem IsCels.kept {w w' : World} {a : Option Addr} {len cap : Nat} {ds : List Cel} {S : List Nat} (h : IsCels w a len cap ds) (hk : Kept S w w') (hS : ∀ g ∈ S, w.heap.size ≤ g) : IsCels w' a len cap ds :=
  IsSl.kept h hk hS (fun _ _ h => h)

/-- The cells of element i. -/
theorem IsCels.cells {w : World} {a : Option Addr} {len cap : Nat} {ds : List Cel} (h : IsCels w a len cap ds) (i : Nat) (hi : i < len) :
    ∃ b o d, ds[i]? = some d ∧ a = some ⟨b, o, none⟩ ∧ b < w.heap.size ∧ 0 ≤ d.k ∧ d.k ≤ 255 ∧ w.cell? ⟨b, o + i * 3, none⟩ = some (.int .u8 d.k) ∧
      w.cell? ⟨b, o + i * 3 + 1, none⟩ = some (.int .i64 d.b) ∧ w.cell? ⟨b, o + i * 3 + 2, none⟩ = some (.int .i64 d.i) := by
  have hl : i < ds.length := by have := h.le; have := h.full; omega
  obtain ⟨b, o, cs, h1, h2, h3, ⟨rfl, h4⟩, h5⟩ := h.at' i ds[i] (List.getElem?_eq_getElem hl)
  exact ⟨b, o, ds[i], List.getElem?_eq_getElem hl, h1, h2, h4.1, h4.2, by simpa using h5 0 (by omega), by simpa using h5 1 (by omega), by simpa using h5 2 (by omega)⟩

set_option maxHeartbeats 400000 in
theorem kindOf_any (w : World) (k : Int) (h0 : 0 ≤ k) (h1 : k ≤ 255) :
    Calls Try.prog 33 #[.int .u8 k] w fun e w' => e = .returned (.int .i64 (k % 3)) ∧ w' = w := by
  have hk : k % 3 = 0 ∨ k % 3 = 1 ∨ k % 3 = 2 := by omega
  rcases hk with hk | hk | hk
  all_goals
    go_enter Try.func33, Try.ntmps33
    go_wp2
    go_ret
    exact ⟨by rw [hk]; rfl, rfl⟩

/-- A cell as a fodder element. -/
def Cel.fe (d : Cel) : FE := ⟨none, 0, 0, d.k % 3, d.b, d.i⟩
def celTo (ds : List Cel) (n m : Nat) : List FE := (List.range n).map fun j => if j < m then (ds.getD j default).fe else FE.zero
theorem celTo_length (ds : List Cel) (n m : Nat) : (celTo ds n m).length = n := by simp [celTo]
theorem celTo_zero (ds : List Cel) (n : Nat) : celTo ds n 0 = List.replicate n FE.zero := by
  apply List.ext_getElem?
  intro j
  simp only [celTo, Nat.not_lt_zero, if_false, List.getElem?_map, List.getElem?_replicate]
  by_cases h : j < n <;> simp [h]
theorem celTo_set (ds : List Cel) (n m : Nat) (d : Cel) (hd : ds[m]? = some d) (h : m < n) : (celTo ds n m).set m d.fe = celTo ds n (m + 1) := by
  apply List.ext_getElem?
  intro j
  rw [List.getElem?_set]
  by_cases hj : m = j
  · subst hj
    simp [celTo, h, hd]
  · rw [if_neg hj]
    simp only [celTo, List.getElem?_map]
    by_cases hn : j < n
    · simp only [List.getElem?_range hn, Option.map_some, Option.some.injEq]
      have : (j < m) = (j < m + 1) := by apply propext; omega
      simp only [this]
    · simp [hn]
theorem celTo_full (ds : List Cel) (n : Nat) (h : n ≤ ds.length) : celTo ds n n = (ds.take n).map Cel.fe := by
  apply List.ext_getElem?
  intro j
  simp only [celTo, List.getElem?_map, List.getElem?_take]
  by_cases hj : j < n
  · simp [hj, List.getElem?_eq_getElem (show j < ds.length by omega)]
  · simp [hj]

/-- What toFodderFmtB2 leaves. -/
def ToFod (w : World) (len : Nat) (ds : List Cel) (e : Ending) (w' : World) : Prop :=
  ∃ v, e = .returned v ∧ Fod w' w.heap.size v ((ds.take len).map Cel.fe) ∧ Below w.heap.size w w'

set_option maxRecDepth 100000 in
set_option maxHeartbeats 1000000 in
theorem toFodder_any (w : World) (a : Option Addr) (len cap : Nat) (ds : List Cel) (h : IsCels w a len cap ds) (hlen : len ≤ 65536) :
    Calls Try.prog 31 #[.slice a len cap] w (ToFod w len ds) := by
  have heq := fun (w : World) (a : Option Addr) (l c : Nat) => Lib.run_eql_slice_nil (P := Try.prog) w 38 43 a l c 0 0 Try.underlying38
  have hle := h.le
  have htop := h.top
  have hnil := h.nil
  have hfull := h.full
  unfold maxLen at htop
  cases a with
  | none =>
    obtain rfl : cap = 0 := hnil rfl
    obtain rfl : len = 0 := by omega
    clear hnil h hfull
    go_enter Try.func31, Try.ntmps31
    go_wp2
    go_ret
    exact ⟨_, rfl, World.ownsRow_nil _ _ _ _, Below.refl _ _⟩
  | some x =>
    clear hnil
    have HI := Lib.hid h; clear h
    have HFU := Lib.hid hfull; clear hfull
    obtain ⟨i0, hi, hz0, hz1, hz2⟩ := info_parts Try.infoFE
    go_enter Try.func31, Try.ntmps31
    go_wp2_with (at_make; refine wpList_make_full _ rfl _ _ 28 rfl w.heap.size 47 i0 _ 4 Try.underlying28 hi hz0 hz1 _ _ _ _ len rfl rfl rfl rfl ?b2 ?b3 (Nat.le_refl _) ?_)
    case b2 => rw [hz2]; omega
    case b3 => unfold maxLen; omega
    intro w1 hown hgrow
    have hf : Fod w1 w.heap.size (.slice (some ⟨w.heap.size, 0, none⟩) len len) (celTo ds len 0) := by
      unfold Fod
      rw [celTo_length, celTo_zero, ← made_flat]
      exact hown
    have hb : Below w.heap.size w w1 := (Below.refl _ _).grown hgrow (Nat.le_refl _) (by simp)
    clear hown hgrow hi hz0 hz1 hz2 heq
    have HF := Lib.hid hf; clear hf
    go_wp2_with fail
    go_loopw [4] (fun i wr => ∃ m : Nat, m ≤ len ∧ i = .int .i64 m ∧ Fod wr w.heap.size (.slice (some ⟨w.heap.size, 0, none⟩) len len) (celTo ds len m) ∧ Below w.heap.size w wr) (fun i _ => len - (intOf i).toNat)
    case atStart => exact ⟨0, Nat.zero_le _, rfl, HF.out, hb⟩
    case round =>
      clear HF hb
      obtain ⟨m, hm, rfl, hf, hb⟩ := hrel
      by_cases hlt : m < len
      · obtain ⟨b, o, d, hd, hx, hbl, hk0, hk1, q0, q1, q2⟩ := HI.out.cells m hlt
        obtain rfl : x = ⟨b, o, none⟩ := by simpa using hx
        have q0 := (hb.cell (p := ⟨b, o + m * 3, none⟩) hbl).trans q0
        have q1 := (hb.cell (p := ⟨b, o + m * 3 + 1, none⟩) hbl).trans q1
        have q2 := (hb.cell (p := ⟨b, o + m * 3 + 2, none⟩) hbl).trans q2
        obtain ⟨e, _, c0, c1, c2, c3⟩ := hf.cells m (by rw [celTo_length]; exact hlt)
        have f0 := hf.frozen (m * 4)
        have f1 := hf.frozen (m * 4 + 1)
        have f2 := hf.frozen (m * 4 + 2)
        have f3 := hf.frozen (m * 4 + 3)
        have hn := hf.put m d.fe (by rw [celTo_length]; exact hlt)
        rw [celTo_set ds len m d hd hlt] at hn
        unfold put4 Cel.fe at hn
        dsimp only at hn
        have HN := Lib.hid hn; clear hn hf hd hx HI HFU
        have hs := hb.size
        obtain ⟨dk, db, di⟩ := d
        dsimp only at hk0 hk1 q0 q1 q2 HN
        go_wp2_with fail
        go_still_tail 20, (by kernel_rfl)
        still_call (kindOf_any _ _ hk0 hk1)
        repeat still_step
        refine wpStill_nil ?_
        go_wp2
        go_roundw
        case rel => exact ⟨m + 1, by omega, by go_num, HN.out.kept (Kept.refl [] _).drew (by simp), ((((hb.setCell (Nat.le_refl _) _).setCell (Nat.le_refl _) _).setCell (Nat.le_refl _) _).setCell (Nat.le_refl _) _).drew⟩
        case measure => simp [intOf]; omega
      · obtain rfl : m = len := by omega
        rw [celTo_full ds m (by rw [HFU.out]; omega)] at hf
        have HF := Lib.hid hf; clear hf
        go_wp2
        go_ret
        exact ⟨_, rfl, HF.out, hb⟩

set_option maxHeartbeats 400000 in
theorem rm_none (w : World) (a : Option Addr) (cap : Nat) :
    Calls Try.prog 50 #[.slice a 0 cap] w fun e w' => e = .returned (.tuple #[]) ∧ w = w' := by
  go_enter Try.func50, Try.ntmps50
  go_wp2
  go_end0
  exact ⟨rfl, rfl⟩

set_option maxHeartbeats 400000 in
theorem rm_some (w : World) (g n cap : Nat) (v : Value) (hn : n + 1 ≤ 9223372036854775807) (hc : w.cell? ⟨g, n * 4 + 2, none⟩ = some v) (hf : w.frozen? ⟨g, n * 4 + 2, none⟩ = false) :
    Calls Try.prog 50 #[.slice (some ⟨g, 0, none⟩) (n + 1) cap] w fun e w' => e = .returned (.tuple #[]) ∧ w.setCell ⟨g, n * 4 + 2, none⟩ (.int .i64 0) = w' := by
  go_enter Try.func50, Try.ntmps50
  go_wp2
  go_end0
  exact ⟨rfl, rfl⟩

set_option maxHeartbeats 400000 in
theorem zzrm_none (w : World) (a : Option Addr) (cap : Nat) :
    Calls Try.prog 32 #[.slice a 0 cap] w fun e w' => e = .returned (.tuple #[]) ∧ w = w' := by
  go_enter Try.func32, Try.ntmps32
  go_wp2_with fail
  refine (rm_none _ _ _).mono ?_
  rintro e w' ⟨rfl, rfl⟩
  go_wp2_with fail
  go_end0
  exact ⟨rfl, rfl⟩

set_option maxHeartbeats 400000 in
theorem zzrm_some (w : World) (g n cap : Nat) (v : Value) (hn : n + 1 ≤ 9223372036854775807) (hc : w.cell? ⟨g, n * 4 + 2, none⟩ = some v) (hf : w.frozen? ⟨g, n * 4 + 2, none⟩ = false) :
    Calls Try.prog 32 #[.slice (some ⟨g, 0, none⟩) (n + 1) cap] w fun e w' => e = .returned (.tuple #[]) ∧ w.setCell ⟨g, n * 4 + 2, none⟩ (.int .i64 0) = w' := by
  go_enter Try.func32, Try.ntmps32
  go_wp2_with fail
  refine (rm_some _ _ _ _ v hn hc hf).mono ?_
  rintro e w' ⟨rfl, rfl⟩
  go_wp2_with fail
  go_end0
  exact ⟨rfl, rfl⟩

/-- The fodder behind the first call: element k-1 has lost its blanks. -/
def cut1 (ds : List Cel) (len k : Nat) : List FE := ((ds.take len).map Cel.fe).mapIdx fun j e => if j + 1 = k then { e with b := 0 } else e
theorem cut1_length (ds : List Cel) (len k : Nat) (h : len ≤ ds.length) : (cut1 ds len k).length = len := by simp [cut1]; omega
theorem cut1_get (ds : List Cel) (len k j : Nat) (d : Cel) (hd : ds[j]? = some d) (hj : j < len) : (cut1 ds len k)[j]? = some ⟨none, 0, 0, d.k % 3, if j + 1 = k then 0 else d.b, d.i⟩ := by
  simp only [cut1, List.getElem?_mapIdx, List.getElem?_map, List.getElem?_take, hj, if_true, hd, Option.map_some]
  by_cases h : j + 1 = k <;> simp [h, Cel.fe]
theorem cut1_zero (ds : List Cel) (len : Nat) : cut1 ds len 0 = (ds.take len).map Cel.fe := by
  apply List.ext_getElem?
  intro j
  simp only [cut1, List.getElem?_mapIdx]
  cases ((ds.take len).map Cel.fe)[j]? <;> simp
theorem cut1_set (ds : List Cel) (len n : Nat) (d : Cel) (hd : ds[n]? = some d) (hn : n < len) :
    ((ds.take len).map Cel.fe).set n { d.fe with b := 0 } = cut1 ds len (n + 1) := by
  apply List.ext_getElem?
  intro j
  rw [List.getElem?_set]
  by_cases hj : n = j
  · subst hj
    have hl : n < ds.length := (List.getElem?_eq_some_iff.1 hd).1
    rw [cut1_get ds len (n + 1) n d hd hn, if_pos rfl, if_pos (by simp; omega)]
    simp [Cel.fe]
  · rw [if_neg hj]
    simp only [cut1, List.getElem?_mapIdx]
    have : ¬ j + 1 = n + 1 := by omega
    simp only [this, if_false]
    cases ((ds.take len).map Cel.fe)[j]? <;> rfl
theorem cut1_again (ds : List Cel) (len n : Nat) (d : Cel) (hd : ds[n]? = some d) (hn : n < len) :
    (cut1 ds len (n + 1)).set n ⟨none, 0, 0, d.k % 3, 0, d.i⟩ = cut1 ds len (n + 1) := by
  apply List.ext_getElem?
  intro j
  rw [List.getElem?_set]
  by_cases hj : n = j
  · subst hj
    have hl : n < ds.length := (List.getElem?_eq_some_iff.1 hd).1
    rw [cut1_get ds len (n + 1) n d hd hn, if_pos rfl, if_pos (by simp [cut1]; omega)]
    simp
  · rw [if_neg hj]
end Go.Proofs.Ytdnhfboclbpdbaa
