/- Slices of strings that came in. -/
import Derived.Test.YtddcpnhpjgeldaaFmtCom
import Derived.SliceStrings
namespace Go.Proofs.YtddcpnhpjgeldaaFmt
open Go.ChangeShapes Go.WideShapes Go.ChangeAt Go.RowKit

/-- What the walk is told of a slice of strings. -/
def IsStrs (w : World) (a : Option Addr) (len cap : Nat) (ss : List ByteArray) : Prop :=
  (a = none ∧ len = 0 ∧ cap = 0 ∧ ss = []) ∨
  ∃ x, a = some x ∧ len ≤ cap ∧ cap ≤ maxLen ∧ ss.length = cap ∧ (∀ i, i < ss.length → w.cell? (x.add i) = some (.string (ss.getD i ByteArray.empty))) ∧ ∀ s ∈ ss, s.size ≤ maxLen

theorem IsStrs.open {w : World} {a : Option Addr} {len cap : Nat} {ss : List ByteArray} (h : IsStrs w a len cap ss) :
    len ≤ cap ∧ cap ≤ maxLen ∧ ss.length = cap ∧ (∀ s ∈ ss, s.size ≤ maxLen) ∧
    ∀ i, i < len → ∃ b o, a = some ⟨b, o, none⟩ ∧ b < w.heap.size ∧ ∀ j, j < cap → w.cell? ⟨b, o + j, none⟩ = some (.string (ss.getD j ByteArray.empty)) := by
  rcases h with ⟨rfl, rfl, rfl, rfl⟩ | ⟨x, rfl, h1, h2, h3, h4, h5⟩
  · exact ⟨Nat.le_refl _, Nat.zero_le _, rfl, by simp, fun i hi => by omega⟩
  · refine ⟨h1, h2, h3, h5, fun i hi => ?_⟩
    have h0 := h4 0 (by omega)
    have hs : x.spot = none := by
      have : x.add 0 = x := by unfold Addr.add; simp
      rw [this] at h0
      exact spot_of_cell h0
    obtain ⟨b, o, s⟩ := x
    simp at hs
    subst hs
    refine ⟨b, o, rfl, ?_, fun j hj => ?_⟩
    · have := World.block_lt_of_cell? w _ h0
      simpa [Addr.add] using this
    · have := h4 j (by omega)
      rwa [add_off] at this

theorem Kept.strs {S : List Nat} {w w' : World} (h : Kept S w w') {a : Option Addr} {len cap : Nat} {ss : List ByteArray} (hr : IsStrs w a len cap ss)
    (hS : ∀ g ∈ S, w.heap.size ≤ g) : IsStrs w' a len cap ss := by
  rcases hr with h1 | ⟨x, h1, h2, h3, h4, h5, h6⟩
  · exact Or.inl h1
  · refine Or.inr ⟨x, h1, h2, h3, h4, fun i hi => ?_, h6⟩
    have := h5 i hi
    exact h.cell this (fun hm => by have h1 := hS _ hm; have h2 := World.block_lt_of_cell? w _ this; omega)

theorem open_strs {H : Type} {enc : TypeId × Value → H} {w : World} {fuel : Nat} {a : Option Addr} {len cap : Nat} {x : DataW H × List MemPlace}
    (h : DataW.trod enc Tryf.prog w 0 (fun _ => true) true fuel 22 [.slice a len cap] = some x) : ∃ ss, IsStrs w a len cap ss := by
  rcases open_strings Tryf.underlying22 Tryf.underlying9 (by kernel_rfl) h with ⟨hcs, _⟩ | ⟨y, l, c, ss, hcs, _, hl, hm, hz, _, hcell, hws⟩
  · simp at hcs
    obtain ⟨rfl, rfl, rfl⟩ := hcs
    exact ⟨[], .inl ⟨rfl, rfl, rfl, rfl⟩⟩
  · simp at hcs
    obtain ⟨rfl, rfl, rfl⟩ := hcs
    exact ⟨ss, .inr ⟨_, rfl, hl, hm, by simpa using hz, hcell, hws⟩⟩

end Go.Proofs.YtddcpnhpjgeldaaFmt
