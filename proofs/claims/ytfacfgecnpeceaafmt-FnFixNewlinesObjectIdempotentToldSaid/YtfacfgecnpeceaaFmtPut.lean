/- One element of a fodder is written whole. -/
import Derived.Test.YtfacfgecnpeceaaFmtCom
namespace Go.Proofs.YtfacfgecnpeceaaFmt
open Go.ChangeShapes Go.WideShapes Go.ChangeAt Go.RowKit

/-- One element is written whole. -/
def put4 (w : World) (g i : Nat) (e : FE) : World :=
  (((w.setCell ⟨g, i * 4, none⟩ (.slice e.ca e.cl e.cc)).setCell ⟨g, i * 4 + 1, none⟩ (.int .i64 e.k)).setCell ⟨g, i * 4 + 2, none⟩ (.int .i64 e.b)).setCell ⟨g, i * 4 + 3, none⟩ (.int .i64 e.i)

theorem Fod.put {w : World} {base : Nat} {g n cap : Nat} {l : List FE} (h : Fod w base (.slice (some ⟨g, 0, none⟩) n cap) l) (i : Nat) (e : FE) (hi : i < l.length) :
    Fod (put4 w g i e) base (.slice (some ⟨g, 0, none⟩) n cap) (l.set i e) := by
  obtain ⟨x, hx⟩ : ∃ x, l[i]? = some x := ⟨_, List.getElem?_eq_getElem hi⟩
  have hget : ∀ (m : List FE) (y : FE), i < m.length → (m.set i y)[i]? = some y := fun m y hm => by rw [List.getElem?_set_self hm]
  have s0 := h.set i x { x with ca := e.ca, cl := e.cl, cc := e.cc } hx 0 (by omega) (.slice e.ca e.cl e.cc) rfl
  have s1 := s0.set i _ { x with ca := e.ca, cl := e.cl, cc := e.cc, k := e.k } (hget _ _ hi) 1 (by omega) (.int .i64 e.k) rfl
  have s2 := s1.set i _ { x with ca := e.ca, cl := e.cl, cc := e.cc, k := e.k, b := e.b } (hget _ _ (by simpa using hi)) 2 (by omega) (.int .i64 e.b) rfl
  have s3 := s2.set i _ e (hget _ _ (by simpa using hi)) 3 (by omega) (.int .i64 e.i) rfl
  simp only [List.set_set] at s3
  exact s3

theorem Kept.put {S : List Nat} {a w : World} (h : Kept S a w) {g i : Nat} (hp : g ∈ S ∨ a.heap.size ≤ g) (e : FE) : Kept S a (put4 w g i e) :=
  (((h.setCell (p := ⟨g, i * 4, none⟩) hp _).setCell (p := ⟨g, i * 4 + 1, none⟩) hp _).setCell (p := ⟨g, i * 4 + 2, none⟩) hp _).setCell (p := ⟨g, i * 4 + 3, none⟩) hp _
end Go.Proofs.YtfacfgecnpeceaaFmt
