/- Slices of whatever elements that came in: what the walk is told of them, and how the row's reading gives it. -/
import Derived.Test.YtfacfgecnpeceaaFmtCom
import Derived.Deep.Slices
import Derived.Deep.Strs
import Derived.Carry
import Derived.ChangeOld
import Derived.WalkSpells
namespace Go.Proofs.YtfacfgecnpeceaaFmt
open Go.ChangeShapes Go.WideShapes Go.ChangeAt Go.RowKit

/-- A slice with elements of c cells each; R says how an element's cells read. -/
structure IsSl {α : Type} (c : Nat) (R : World → List Value → α → Prop) (w : World) (a : Option Addr) (len cap : Nat) (ds : List α) : Prop where
  le : len ≤ cap
  top : cap ≤ maxLen
  full : ds.length = cap
  nil : a = none → cap = 0
  at' : ∀ i d, ds[i]? = some d → ∃ b o cs, a = some ⟨b, o, none⟩ ∧ b < w.heap.size ∧ cs.length = c ∧ R w cs d ∧ ∀ j, j < c → w.cell? ⟨b, o + i * c + j, none⟩ = cs[j]?

theorem IsSl.kept {α : Type} {c : Nat} {R : World → List Value → α → Prop} {w w' : World} {a : Option Addr} {len cap : Nat} {ds : List α} {S : List Nat} (h : IsSl c R w a len cap ds) (hk : Kept S w w')
    (hS : ∀ g ∈ S, w.heap.size ≤ g) (hR : ∀ cs d, R w cs d → R w' cs d) : IsSl c R w' a len cap ds := by
  refine ⟨h.le, h.top, h.full, h.nil, fun i d hd => ?_⟩
  obtain ⟨b, o, cs, h1, h2, h3, h4, h5⟩ := h.at' i d hd
  refine ⟨b, o, cs, h1, Nat.lt_of_lt_of_le h2 hk.size, h3, hR _ _ h4, fun j hj => ?_⟩
  rw [← h5 j hj]
  exact World.cell?_of_block (w := w) (hk.block b h2 (fun hm => by have := hS b hm; omega))

theorem add_add' (a : Addr) (i j : Nat) : (a.add i).add j = a.add (i + j) := Go.Deep.add_add a i j

section
variable {H : Type} {enc : TypeId × Value → H} {w : World}

theorem open_sl {T E : TypeId} (ht : Tryf.prog.underlying T = some (.slice E)) {c : Nat} (hc : Tryf.prog.cellsOf E = c) (hc0 : 0 < c) {α : Type} [Inhabited α] (R : World → List Value → α → Prop)
    (hR : ∀ (n : Nat) (cs : List Value) (y : DataW H × List MemPlace), DataW.trod enc Tryf.prog w 0 (fun _ => true) true n E cs = some y → ∃ d, R w cs d)
    {fuel : Nat} {a : Option Addr} {len cap : Nat} {x : DataW H × List MemPlace} (h : DataW.trod enc Tryf.prog w 0 (fun _ => true) true fuel T [.slice a len cap] = some x) :
    ∃ ds, IsSl c R w a len cap ds := by
  rcases Go.Deep.open_slice ht h with ⟨h0, _⟩ | ⟨a', len', cap', m, n, D, Pl, h1, _, hl, hm, hmm, _, hel⟩
  · simp at h0
    obtain ⟨rfl, rfl, rfl⟩ := h0
    exact ⟨[], Nat.le_refl _, Nat.zero_le _, rfl, fun _ => rfl, fun i d hd => by simp at hd⟩
  · simp at h1 hmm
    obtain ⟨rfl, rfl, rfl⟩ := h1
    subst hmm
    have hch : ∀ i, i < m → ∃ d : α, ∃ b o cs, a' = ⟨b, o, none⟩ ∧ b < w.heap.size ∧ cs.length = c ∧ R w cs d ∧ ∀ j, j < c → w.cell? ⟨b, o + i * c + j, none⟩ = cs[j]? := by
      intro i hi
      obtain ⟨cs, hcs, htr⟩ := hel i hi
      obtain ⟨d, hd⟩ := hR _ _ _ htr
      rw [hc] at hcs
      obtain ⟨_, hlen, hcell⟩ := World.cells?_some hcs
      have hc00 := hcell 0 hc0
      have hsome : ∃ v, w.cell? ((a'.add (i * c)).add 0) = some v := ⟨cs[0], by rw [hc00, List.getElem?_eq_getElem (by omega)]⟩
      obtain ⟨v, hv⟩ := hsome
      have hlt := World.block_lt_of_cell? w _ hv
      -- the first element tells the slice's own spot
      obtain ⟨cs0, hcs0, _⟩ := hel 0 (by omega)
      rw [hc] at hcs0
      obtain ⟨_, hlen0, hcell0⟩ := World.cells?_some hcs0
      have h00 := hcell0 0 hc0
      rw [Nat.zero_mul, add_add', Nat.add_zero] at h00
      have hs : (a'.add 0).spot = none := by
        refine spot_of_cell (w := w) (v := cs0[0]) ?_
        rw [h00, List.getElem?_eq_getElem (by omega)]
      obtain ⟨b, o, s⟩ := a'
      simp [Addr.add] at hs
      subst hs
      refine ⟨d, b, o, cs, rfl, ?_, hlen, hd, fun j hj => ?_⟩
      · rw [add_off, add_off] at hlt; exact hlt
      · have := hcell j hj
        rwa [add_off, add_off] at this
    obtain ⟨f, hf⟩ := Go.Deep.choose_lt hch
    refine ⟨(List.range m).map f, hl, hm, by simp, fun h => by simp at h, fun i d hd => ?_⟩
    have hi : i < m := by
      have := (List.getElem?_eq_some_iff.1 hd).1
      simpa using this
    rw [List.getElem?_map, List.getElem?_range hi] at hd
    simp at hd
    subst hd
    obtain ⟨b, o, cs, h1, h2⟩ := hf i hi
    exact ⟨b, o, cs, by rw [h1], h2⟩
end

end Go.Proofs.YtfacfgecnpeceaaFmt
