/- Strings that are only read; the codes of a row; fodders kept through appends to blocks of another type. -/
import Derived.Test.YtddcpnhpjgeldaaFmtT1
import Derived.Test.YtddcpnhpjgeldaaFmtStr
namespace Go.Proofs.YtddcpnhpjgeldaaFmt
open Go.ChangeShapes Go.WideShapes Go.ChangeAt Go.RowKit

/-- A slice that reads as these strings. -/
def RB (_ : World) (cs : List Value) (s : ByteArray) : Prop := cs = [.string s] ∧ s.size ≤ maxLen
def RdB := Rd 1 RB
theorem RdB.kept0 {w w' : World} {a : Option Addr} {len cap : Nat} {ds : List ByteArray} (h : RdB w a len cap ds) (hk : Kept [] w w') : RdB w' a len cap ds :=
  Rd.kept h hk (by simp) (fun _ _ h => h)
theorem RdB.row {w : World} {a : Option Addr} {len cap : Nat} {ds : List ByteArray} (h : RdB w a len cap ds) (i : Nat) (hi : i < len) :
    ∃ b o s, ds[i]? = some s ∧ a = some ⟨b, o, none⟩ ∧ b < w.heap.size ∧ w.cell? ⟨b, o + i, none⟩ = some (.string s) := by
  have hl : i < ds.length := by have := h.len; omega
  obtain ⟨b, o, cs, h1, h2, h3, ⟨rfl, _⟩, h5⟩ := h.at' i ds[i] (List.getElem?_eq_getElem hl)
  exact ⟨b, o, ds[i], List.getElem?_eq_getElem hl, h1, h2, by simpa using h5 0 (by omega)⟩
theorem RdB.sz {w : World} {a : Option Addr} {len cap : Nat} {ds : List ByteArray} (h : RdB w a len cap ds) : ∀ s ∈ ds, s.size ≤ maxLen := by
  intro s hs
  obtain ⟨i, hi, rfl⟩ := List.mem_iff_getElem.1 hs
  obtain ⟨b, o, cs, h1, h2, h3, ⟨_, h4⟩, h5⟩ := h.at' i ds[i] (List.getElem?_eq_getElem hi)
  exact h4
theorem IsStrs.rdb {w : World} {a : Option Addr} {len cap : Nat} {ss : List ByteArray} (h : IsStrs w a len cap ss) : RdB w a len cap (ss.take len) := by
  obtain ⟨h1, h2, h3, h4, h5⟩ := h.open
  refine ⟨h1, h2, by rw [List.length_take, h3]; omega, fun i d hd => ?_⟩
  rw [List.getElem?_take] at hd
  split at hd
  · rename_i hi
    obtain ⟨b, o, ha, hb, hc⟩ := h5 i hi
    refine ⟨b, o, [.string d], ha, hb, rfl, ⟨rfl, h4 d (List.mem_of_getElem? hd)⟩, fun j hj => ?_⟩
    obtain rfl : j = 0 := by omega
    have := hc i (by omega)
    rw [List.getD_eq_getElem?_getD, hd] at this
    simpa using this
  · cases hd
theorem OwnR.rdb {w : World} {base : Nat} {a : Option Addr} {n cap : Nat} {l : List ByteArray} (h : OwnR 9 1 encB w base (.slice a n cap) l) (hs : ∀ s ∈ l, s.size ≤ maxLen) : RdB w a n cap l :=
  OwnR.rd h encB_len RB l rfl (fun i y d h1 h2 => by rw [h1] at h2; obtain rfl : y = d := by simpa using h2
                                                     exact ⟨rfl, hs y (List.mem_of_getElem? h1)⟩)

/-- The codes of the fodder behind element i. -/
def adjC (dd : List (List ZE)) (i : Nat) : List ZE := (dd.getD i []).map nz
theorem adjC_at {dd : List (List ZE)} {i : Nat} {r : List ZE} (h : dd[i]? = some r) : adjC dd i = r.map nz := by
  unfold adjC
  rw [List.getD_eq_getElem?_getD, h]; rfl
theorem adjC_no {dd : List (List ZE)} {i : Nat} (h : dd.length ≤ i) : adjC dd i = [] := by
  unfold adjC
  rw [List.getD_eq_getElem?_getD, List.getElem?_eq_none h]; rfl
theorem Fod.keptT {T' : Nat} {S : List Nat} {w w' : World} {base : Nat} {v : Value} {l : List FE} (h : Fod w base v l) (hk : Kept S w w') (hS : ∀ g ∈ S, ∃ cs, w.heap[g]? = some (.cells cs T' (0, 0))) (hne : T' ≠ 56) : Fod w' base v l :=
  (OwnR.keptT h.own hk hS hne).fod
end Go.Proofs.YtddcpnhpjgeldaaFmt
