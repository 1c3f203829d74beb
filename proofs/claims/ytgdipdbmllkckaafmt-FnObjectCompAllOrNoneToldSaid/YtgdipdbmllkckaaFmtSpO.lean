/- Levels that the call itself writes, and the contract of n008_142's zzSpecsEnsured. -/
import Derived.Test.YtgdipdbmllkckaaFmtSB2
namespace Go.Proofs.YtgdipdbmllkckaaFmt
open Go.ChangeShapes Go.WideShapes Go.ChangeAt Go.RowKit

def encP (u : Trip × Trip) : List Value := [u.1.val, u.2.val]
theorem encP_len (u : Trip × Trip) : (encP u).length = 2 := rfl
theorem encP_one (u : Trip × Trip) : ∀ x ∈ encP u, x.oneCell' = true := by
  intro x hx
  simp only [encP, List.mem_cons, List.not_mem_nil, or_false] at hx
  rcases hx with rfl | rfl <;> rfl
def SpO (w : World) (base : Nat) (u : Trip × Trip) (s : SE) : Prop := Snp w base u.1.val s.f ∧ RowO w base u.2.val s.ifs
/-- v is a slice, of the call's own, of levels, of the call's own. -/
def SpsO (w : World) (base : Nat) (v : Value) (ss : List SE) : Prop :=
  ∃ us : List (Trip × Trip), OwnR 69 2 encP w base v us ∧ us.length = ss.length ∧ ∀ (i : Nat) u s, us[i]? = some u → ss[i]? = some s → SpO w base u s
theorem SpO.kept0 {w w' : World} {base : Nat} {u : Trip × Trip} {s : SE} (h : SpO w base u s) (q : Kept [] w w') : SpO w' base u s := ⟨OwnR.kept0 h.1 q, h.2.kept0 q⟩
theorem SpO.low {w : World} {b b' : Nat} {u : Trip × Trip} {s : SE} (h : SpO w b u s) (hb : b' ≤ b) : SpO w b' u s := ⟨OwnR.low h.1 hb, h.2.low hb⟩
theorem SpsO.kept0 {w w' : World} {base : Nat} {v : Value} {ss : List SE} (h : SpsO w base v ss) (q : Kept [] w w') : SpsO w' base v ss := by
  obtain ⟨us, h1, h2, h3⟩ := h
  exact ⟨us, h1.kept0 q, h2, fun i u s hu hs => (h3 i u s hu hs).kept0 q⟩
theorem SpO.keptT {T' : Nat} {S : List Nat} {w w' : World} {base : Nat} {u : Trip × Trip} {s : SE} (h : SpO w base u s) (q : Kept S w w') (hS : ∀ g ∈ S, ∃ cs, w.heap[g]? = some (.cells cs T' (0, 0))) (h1 : T' ≠ 71) (h2 : T' ≠ 24) : SpO w' base u s :=
  ⟨h.1.keptT q hS h1, h.2.keptT q hS h1 h2⟩
theorem SpO.rsp {w : World} {base : Nat} {u : Trip × Trip} {s : SE} (h : SpO w base u s) : RSp w (encP u) s := ⟨u.1.1, u.1.2.1, u.1.2.2, u.2.1, u.2.2.1, u.2.2.2, rfl, Snp.rdz h.1, RowO.rdr h.2⟩
theorem SpsO.rds {w : World} {base : Nat} {a : Option Addr} {n cap : Nat} {ss : List SE} (h : SpsO w base (.slice a n cap) ss) : RdS w a n cap ss := by
  obtain ⟨us, h1, h2, h3⟩ := h
  exact OwnR.rd h1 encP_len RSp ss h2.symm (fun i u s hu hs => (h3 i u s hu hs).rsp)
theorem SpsO.slice {w : World} {base : Nat} {v : Value} {ss : List SE} (h : SpsO w base v ss) : ∃ a c, v = .slice a ss.length c := by
  obtain ⟨ts, h1, h2, _⟩ := h
  obtain ⟨a, c, hv, _⟩ := h1.slice
  exact ⟨a, c, by rw [hv, h2]⟩
theorem SpsO.snoc {w w' : World} {base : Nat} {v v' : Value} {ss : List SE} {us : List (Trip × Trip)} {u : Trip × Trip} {s : SE} (h2 : us.length = ss.length) (h3 : ∀ (i : Nat) u s, us[i]? = some u → ss[i]? = some s → SpO w base u s) (hd : SpO w base u s) (hv : OwnR 69 2 encP w base v us)
    (hn : OwnR 69 2 encP w' base v' (us ++ [u])) (q : Kept v.ownBlock.toList w w') : SpsO w' base v' (ss ++ [s]) := by
  have ne : (69 : Nat) ≠ 71 := by decide
  have ne2 : (69 : Nat) ≠ 24 := by decide
  refine ⟨_, hn, by simp [h2], fun j t' d' ht hd' => ?_⟩
  by_cases hj : j < us.length
  · rw [List.getElem?_append_left hj] at ht
    rw [List.getElem?_append_left (by omega)] at hd'
    exact (h3 j t' d' ht hd').keptT q hv.typ ne ne2
  · rw [List.getElem?_append_right (by omega)] at ht
    rw [List.getElem?_append_right (by omega), ← h2] at hd'
    have hj0 : j - us.length = 0 := by
      by_cases h0 : j - us.length = 0
      · exact h0
      · rw [List.getElem?_eq_none (by simp; omega)] at ht; cases ht
    rw [hj0] at ht hd'
    simp at ht hd'
    subst ht hd'
    exact hd.keptT q hv.typ ne ne2
theorem Tryf.infoSp : (Tryf.prog.info? 69).map (fun i => (i.zero, i.size, i.bytes)) = some (some (.agg #[.slice none 0 0, .slice none 0 0]), 2, 48) := by kernel_rfl

def ensSp (s : SE) : SE := ⟨ensE s.f, s.ifs.map ensE⟩
theorem map_take_snoc {α β : Type} (f : α → β) {l : List α} {k : Nat} {z : α} (h : l[k]? = some z) : (l.take (k + 1)).map f = (l.take k).map f ++ [f z] := by
  rw [take_snoc h, List.map_append]; rfl

end Go.Proofs.YtgdipdbmllkckaaFmt
