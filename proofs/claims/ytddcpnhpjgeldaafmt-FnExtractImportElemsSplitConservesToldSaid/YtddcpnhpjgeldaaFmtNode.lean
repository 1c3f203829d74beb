/- Words for nodes in memory: cells of blocks known whole, type switches, the callees that do nothing. -/
import Derived.Test.YtddcpnhpjgeldaaFmtCom
import Derived.Handy
import Derived.StillTailTactics
import Derived.Deep.RegionWith
namespace Go.Proofs.YtddcpnhpjgeldaaFmt
open Go.ChangeShapes Go.WideShapes Go.ChangeAt Go.RowKit

/-- To write into a cell what it holds changes nothing. -/
theorem setCell_self {w : World} {p : Addr} {v : Value} (h : w.cell? p = some v) : w.setCell p v = w := by
  have e : (w.setCell p v).heap = w.heap := by
    unfold World.setCell
    dsimp only
    apply Array.ext_getElem?
    intro k
    rw [Array.getElem?_modify]
    split
    · rename_i hk
      subst hk
      unfold World.cell? at h
      split at h
      · rename_i c t f hg
        split at h
        · cases h
        · rename_i hs
          rw [hg]
          simp only [Option.map_some, hs]
          congr 2
          apply Array.ext_getElem?
          intro j
          simp only [Bool.false_eq_true, if_false]
          rw [Array.getElem?_setIfInBounds]
          split
          · rename_i hj
            subst hj
            split
            · exact h.symm
            · rw [Array.getElem?_eq_none (by omega)] at h; cases h
          · rfl
      · cases h
    · rfl
  have : w.setCell p v = { w with heap := (w.setCell p v).heap } := rfl
  rw [this, e]

theorem Fod.low {w : World} {b b' : Nat} {v : Value} {l : List FE} (h : Fod w b v l) (hb : b' ≤ b) : Fod w b' v l := by
  refine ⟨h.1, ?_⟩
  rcases h.2 with h | ⟨g, cap, cur, e1, e2, e3⟩
  · exact Or.inl h
  · exact Or.inr ⟨g, cap, cur, e1, Nat.le_trans hb e2, e3⟩

theorem fod_nil (w : World) (base : Nat) : Fod w base (.slice none 0 0) [] := World.ownsRow_nil _ _ _ _

theorem Fod.isSlice {w : World} {base : Nat} {v : Value} {l : List FE} (h : Fod w base v l) : ∃ a n c, v = .slice a n c := by
  obtain ⟨a, c, h, _⟩ := h.slice
  exact ⟨_, _, _, h⟩

theorem ta_no {T E : TypeId} (hu : Tryf.prog.underlying T = some (.pointer E)) (hz : ∀ w, (zeroValue T).run Tryf.prog w = .ok (.pointer none) w) (D : TypeId) (x : Value) (X : TypeId) (w : World) (hne : D ≠ T) :
    (Instr.typeAssert (.iface D x) X T true).run Tryf.prog w = .ok (.tuple #[.pointer none, .bool false]) w := by
  have hur : (underlying T).run Tryf.prog w = .ok (.pointer E) w := by
    have hprog : program.run Tryf.prog w = .ok Tryf.prog w := rfl
    unfold underlying
    simp [hprog, go_sem, hu]
  unfold Instr.typeAssert
  simp [go_sem, hur, hne, hz]
theorem ta_yes {T E : TypeId} (hu : Tryf.prog.underlying T = some (.pointer E)) (x : Value) (X : TypeId) (w : World) :
    (Instr.typeAssert (.iface T x) X T true).run Tryf.prog w = .ok (.tuple #[x, .bool true]) w := by
  have hur : (underlying T).run Tryf.prog w = .ok (.pointer E) w := by
    have hprog : program.run Tryf.prog w = .ok Tryf.prog w := rfl
    unfold underlying
    simp [hprog, go_sem, hu]
  unfold Instr.typeAssert
  simp [go_sem, hur]
theorem ta_no_Function (D : TypeId) (x : Value) (X : TypeId) (w : World) (hne : D ≠ 37) : (Instr.typeAssert (.iface D x) X 37 true).run Tryf.prog w = .ok (.tuple #[.pointer none, .bool false]) w := ta_no (E := 111) (by kernel_rfl) (fun _ => by kernel_rfl) D x X w hne
theorem ta_no_Import (D : TypeId) (x : Value) (X : TypeId) (w : World) (hne : D ≠ 60) : (Instr.typeAssert (.iface D x) X 60 true).run Tryf.prog w = .ok (.tuple #[.pointer none, .bool false]) w := ta_no (E := 72) (by kernel_rfl) (fun _ => by kernel_rfl) D x X w hne
theorem ta_no_LiteralString (D : TypeId) (x : Value) (X : TypeId) (w : World) (hne : D ≠ 61) : (Instr.typeAssert (.iface D x) X 61 true).run Tryf.prog w = .ok (.tuple #[.pointer none, .bool false]) w := ta_no (E := 70) (by kernel_rfl) (fun _ => by kernel_rfl) D x X w hne
theorem ta_yes_Function (x : Value) (X : TypeId) (w : World) : (Instr.typeAssert (.iface 37 x) X 37 true).run Tryf.prog w = .ok (.tuple #[x, .bool true]) w := ta_yes (E := 111) (by kernel_rfl) x X w
theorem ta_yes_Import (x : Value) (X : TypeId) (w : World) : (Instr.typeAssert (.iface 60 x) X 60 true).run Tryf.prog w = .ok (.tuple #[x, .bool true]) w := ta_yes (E := 72) (by kernel_rfl) x X w
theorem ta_yes_LiteralString (x : Value) (X : TypeId) (w : World) : (Instr.typeAssert (.iface 61 x) X 61 true).run Tryf.prog w = .ok (.tuple #[x, .bool true]) w := ta_yes (E := 70) (by kernel_rfl) x X w

/-- What a cell of a block that is known whole holds. -/
theorem cell_of_block {w : World} {b : Nat} {cs : Array Value} {t : TypeId} (h : w.heap[b]? = some (.cells cs t (0, 0))) (o : Nat) : w.cell? ⟨b, o, none⟩ = cs[o]? := by
  unfold World.cell?
  dsimp only
  rw [h]
  rfl
theorem frozen_of_block {w : World} {b : Nat} {cs : Array Value} {t : TypeId} (h : w.heap[b]? = some (.cells cs t (0, 0))) (o : Nat) : w.frozen? ⟨b, o, none⟩ = false := by
  unfold World.frozen?
  dsimp only
  rw [h]
  simp


end Go.Proofs.YtddcpnhpjgeldaaFmt
