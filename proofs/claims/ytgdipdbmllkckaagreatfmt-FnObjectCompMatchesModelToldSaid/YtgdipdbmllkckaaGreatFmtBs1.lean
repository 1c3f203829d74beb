/- Levels under construction, and the contracts of n008_142's ZZnewIfSpec, ZZnewForSpec. -/
import Derived.Test.YtgdipdbmllkckaaGreatFmtChn
import Derived.Test.YtgdipdbmllkckaaGreatFmtSpO
namespace Go.Proofs.YtgdipdbmllkckaaGreatFmt
open Go.ChangeShapes Go.WideShapes Go.ChangeAt Go.RowKit

/-- A null literal without fodder, its block known whole. -/
def NulT (w : World) (x : Nat) : Prop := w.heap[x]? = some (.cells #[.slice none 0 0, .pointer none, .slice none 0 0, .pointer none, .string ⟨#[]⟩, .int .i64 0, .int .i64 0, .int .i64 0, .int .i64 0] 106 (0, 0))
theorem NulT.at {w : World} {x : Nat} (h : NulT w x) : AtNull w x := ⟨cell_of_block h 0, frozen_of_block h 0⟩
theorem NulT.kept0 {w w' : World} {x : Nat} (h : NulT w x) (q : Kept [] w w') : NulT w' x := q.heap h (by simp)
theorem NulT.lt {w : World} {x : Nat} (h : NulT w x) : x < w.heap.size := (Array.getElem?_eq_some_iff.1 h).1

theorem heap_new2 (w : World) (a b : Obj) : ((w.alloc a).alloc b).heap[w.heap.size + 1]? = some b := by
  have := heap_alloc_new (w.alloc a) b
  rw [show (w.alloc a).heap.size = w.heap.size + 1 by simp] at this
  exact this

set_option maxRecDepth 100000 in
theorem newIfSpec_any (w : World) (a : Option Addr) (n c : Nat) : Calls Tryz.prog 31 #[.slice a n c] w fun e w' => e = .returned (.agg #[nulI (w.heap.size + 1), .slice a n c]) ∧ NulT w' (w.heap.size + 1) ∧ Kept [] w w' := by
  go_enter Tryz.func31, Tryz.ntmps31
  go_wp2_with fail
  refine bodyPost_ret (v := .agg #[nulI (w.heap.size + 1), .slice a n c]) (by simp [results, Tryz.results31, go_sem, nulI]) rfl ?_
  exact ⟨rfl, heap_new2 _ _ _, ((Kept.refl _ _).alloc _).alloc _⟩

set_option maxRecDepth 100000 in
theorem newForSpec_any (w : World) (va : Option Addr) (vn vc : Nat) (ca : Option Addr) (m cc : Nat) (o : Option Addr) : Calls Tryz.prog 32 #[.slice va vn vc, .slice ca m cc, .pointer o] w fun e w' =>
    e = .returned (.pointer (some ⟨w.heap.size + 1, 0, none⟩)) ∧ NulT w' w.heap.size ∧ w'.heap[w.heap.size + 1]? = some (.cells #[.slice va vn vc, .slice none 0 0, .slice ca m cc, .pointer o, nulI w.heap.size, .string ⟨#[120]⟩, .slice none 0 0] 50 (0, 0)) ∧ Kept [] w w' := by
  go_enter Tryz.func32, Tryz.ntmps32
  go_wp2_with fail
  go_ret
  refine ⟨rfl, ?_, ?_, ((Kept.refl _ _).alloc _).alloc _⟩
  · exact ((Kept.refl [] _).alloc _).heap (heap_alloc_new _ _) (by simp)
  · exact heap_new2 _ _ _

/-- A condition: its null literal's block, its fodder's slice, its fodder. -/
abbrev CY := Nat × Trip × List FE
def encC (y : CY) : List Value := [nulI y.1, y.2.1.val]
theorem encC_len (y : CY) : (encC y).length = 2 := rfl
theorem encC_one (y : CY) : ∀ x ∈ encC y, x.oneCell' = true := by
  intro x hx
  simp only [encC, List.mem_cons, List.not_mem_nil, or_false] at hx
  rcases hx with rfl | rfl <;> rfl
/-- v is a slice, of the call's own, of conditions whose fodders read as the codes dd. -/
structure Cnd (w : World) (C : Nat) (v : Value) (ys : List CY) (dd : List (List ZE)) : Prop where
  own : OwnR 103 2 encC w C v ys
  nul : ∀ (j : Nat) y, ys[j]? = some y → NulT w y.1 ∧ C ≤ y.1
  fod : ∀ (j : Nat) y, ys[j]? = some y → Fod w C y.2.1.val y.2.2
  cod : ys.map (fun y => codes y.2.2) = dd
  dj : ∀ (i j : Nat) y z, ys[i]? = some y → ys[j]? = some z → i ≠ j → ∀ g, y.2.1.val.ownBlock = some g → z.2.1.val.ownBlock ≠ some g
theorem Cnd.len {w : World} {C : Nat} {v : Value} {ys : List CY} {dd : List (List ZE)} (h : Cnd w C v ys dd) : ys.length = dd.length := by rw [← h.cod, List.length_map]
theorem Cnd.kept0 {w w' : World} {C : Nat} {v : Value} {ys : List CY} {dd : List (List ZE)} (h : Cnd w C v ys dd) (q : Kept [] w w') : Cnd w' C v ys dd :=
  ⟨h.own.kept0 q, fun j y hy => ⟨(h.nul j y hy).1.kept0 q, (h.nul j y hy).2⟩, fun j y hy => (h.fod j y hy).kept q (by simp), h.cod, h.dj⟩
theorem get_snoc {α : Type} {l : List α} {y z : α} {j : Nat} (h : (l ++ [y])[j]? = some z) : (l[j]? = some z ∧ j < l.length) ∨ (j = l.length ∧ z = y) := by
  by_cases hj : j < l.length
  · rw [List.getElem?_append_left hj] at h
    exact Or.inl ⟨h, hj⟩
  · rw [List.getElem?_append_right (by omega)] at h
    have hj0 : j - l.length = 0 := by
      by_cases h0 : j - l.length = 0
      · exact h0
      · rw [List.getElem?_eq_none (by simp; omega)] at h; cases h
    rw [hj0] at h
    simp at h
    exact Or.inr ⟨by omega, h.symm⟩
/-- One more condition. The fodder was built at w0, the condition behind it. -/
theorem Cnd.snoc {w0 w w' : World} {C x : Nat} {v v' : Value} {ys : List CY} {dd : List (List ZE)} {t : Trip} {l : List FE} (h : Cnd w0 C v ys dd) (q0 : Kept [] w0 w) (hC : C ≤ w0.heap.size) (hx : NulT w x) (hxC : C ≤ x) (hl : Fod w w0.heap.size t.val l)
    (hn : OwnR 103 2 encC w' C v' (ys ++ [(x, t, l)])) (q : Kept v.ownBlock.toList w w') : Cnd w' C v' (ys ++ [(x, t, l)]) (dd ++ [codes l]) := by
  have ne : (103 : Nat) ≠ 98 := by decide
  have ty := (h.own.kept0 q0).typ
  have fo : ∀ {u : Value} {m : List FE} {b : Nat}, Fod w b u m → Fod w' b u m := fun hf => (hf.own.keptT q ty ne).fod
  have nu : ∀ {x : Nat}, NulT w x → NulT w' x := fun {x} hx => q.heap hx (fun hm => by
    obtain ⟨cs, hcs⟩ := ty x hm
    unfold NulT at hx
    rw [hx] at hcs
    simp at hcs)
  refine ⟨hn, fun j y hy => ?_, fun j y hy => ?_, by rw [List.map_append, h.cod]; rfl, fun i j y z hy hz hij g hg => ?_⟩
  · rcases get_snoc hy with ⟨a, _⟩ | ⟨_, rfl⟩
    · exact ⟨nu ((h.nul j y a).1.kept0 q0), (h.nul j y a).2⟩
    · exact ⟨nu hx, hxC⟩
  · rcases get_snoc hy with ⟨a, _⟩ | ⟨_, rfl⟩
    · exact fo ((h.fod j y a).kept q0 (by simp))
    · exact fo (hl.low hC)
  · rcases get_snoc hy with ⟨a, a2⟩ | ⟨a, rfl⟩
    · rcases get_snoc hz with ⟨b, _⟩ | ⟨b, rfl⟩
      · exact h.dj i j y z a b hij g hg
      · intro e
        have h1 := World.ownsRow.lt (h.fod i y a) g hg
        have h2 := World.ownsRow.lt hl g e
        omega
    · rcases get_snoc hz with ⟨b, _⟩ | ⟨b, rfl⟩
      · intro e
        have h1 := World.ownsRow.lt (h.fod j z b) g e
        have h2 := World.ownsRow.lt hl g hg
        omega
      · omega
theorem Tryz.infoIf : (Tryz.prog.info? 103).map (fun i => (i.zero, i.size, i.bytes)) = some (some (.agg #[.nilIface, .slice none 0 0]), 2, 40) := by kernel_rfl
end Go.Proofs.YtgdipdbmllkckaaGreatFmt
