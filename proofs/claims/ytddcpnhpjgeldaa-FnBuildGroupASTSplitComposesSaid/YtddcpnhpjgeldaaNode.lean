/- Words for nodes in memory: cells of blocks known whole, type switches, the callees that do nothing. -/
import Derived.Test.YtddcpnhpjgeldaaCom
import Derived.Handy
import Derived.StillTailTactics
import Derived.Deep.RegionWith
namespace Go.Proofs.Ytddcpnhpjgeldaa
open Go.ChangeShapes Go.WideShapes Go.ChangeAt Go.RowKit

/-- To write into a cell what it holds changes nothing. -/
theorem setCell_self {w : World} {p : Addr} {v : Value} (h : w.cell? p = some v) : w.setCell p v = w := by
  have e : (w.setCell p v).heap = w.heap := by
    unfold World.setCell
    dsimp only
    apply Array.ext_getElem?
    intro k
    rw [Array.getElem?_modify]
    split
    · rename_i hk
      subst hk
      unfold World.cell? at h
      split at h
      · rename_i c t f hg
        split at h
        · cases h
        · rename_i hs
          rw [hg]
          simp only [Option.map_some, hs]
          congr 2
          apply Array.ext_getElem?
          intro j
          simp only [Bool.false_eq_true, if_false]
          rw [Array.getElem?_setIfInBounds]
          split
          · rename_i hj
            subst hj
            split
            · exact h.symm
            · rw [Array.getElem?_eq_none (by omega)] at h; cases h
          · rfl
      · cases h
    · rfl
  have : w.setCell p v = { w with heap := (w.setCell p v).heap } := rfl
  rw [this, e]

theorem Fod.low {w : World} {b b' : Nat} {v : Value} {l : List FE} (h : Fod w b v l) (hb : b' ≤ b) : Fod w b' v l := by
  refine ⟨h.1, ?_⟩
  rcases h.2 with h | ⟨g, cap, cur, e1, e2, e3⟩
  · exact Or.inl h
  · exact Or.inr ⟨g, cap, cur, e1, Nat.le_trans hb e2, e3⟩

theorem fod_nil (w : World) (base : Nat) : Fod w base (.slice none 0 0) [] := World.ownsRow_nil _ _ _ _

theorem Fod.isSlice {w : World} {base : Nat} {v : Value} {l : List FE} (h : Fod w base v l) : ∃ a n c, v = .slice a n c := by
  obtain ⟨a, c, h, _⟩ := h.slice
  exact ⟨_, _, _, h⟩

theorem ta_no {T E : TypeId} (hu : Try.prog.underlying T = some (.pointer E)) (hz : ∀ w, (zeroValue T).run Try.prog w = .ok (.pointer none) w) (D : TypeId) (x : Value) (X : TypeId) (w : World) (hne : D ≠ T) :
    (Instr.typeAssert (.iface D x) X T true).run Try.prog w = .ok (.tuple #[.pointer none, .bool false]) w := by
  have hur : (underlying T).run Try.prog w = .ok (.pointer E) w := by
    have hprog : program.run Try.prog w = .ok Try.prog w := rfl
    unfold underlying
    simp [hprog, go_sem, hu]
  unfold Instr.typeAssert
  simp [go_sem, hur, hne, hz]
theorem ta_yes {T E : TypeId} (hu : Try.prog.underlying T = some (.pointer E)) (x : Value) (X : TypeId) (w : World) :
    (Instr.typeAssert (.iface T x) X T true).run Try.prog w = .ok (.tuple #[x, .bool true]) w := by
  have hur : (underlying T).run Try.prog w = .ok (.pointer E) w := by
    have hprog : program.run Try.prog w = .ok Try.prog w := rfl
    unfold underlying
    simp [hprog, go_sem, hu]
  unfold Instr.typeAssert
  simp [go_sem, hur]
theorem ta_no_Apply (D : TypeId) (x : Value) (X : TypeId) (w : World) (hne : D ≠ 107) : (Instr.typeAssert (.iface D x) X 107 true).run Try.prog w = .ok (.tuple #[.pointer none, .bool false]) w := ta_no (E := 113) (by kernel_rfl) (fun _ => by kernel_rfl) D x X w hne
theorem ta_no_ApplyBrace (D : TypeId) (x : Value) (X : TypeId) (w : World) (hne : D ≠ 114) : (Instr.typeAssert (.iface D x) X 114 true).run Try.prog w = .ok (.tuple #[.pointer none, .bool false]) w := ta_no (E := 116) (by kernel_rfl) (fun _ => by kernel_rfl) D x X w hne
theorem ta_no_Binary (D : TypeId) (x : Value) (X : TypeId) (w : World) (hne : D ≠ 117) : (Instr.typeAssert (.iface D x) X 117 true).run Try.prog w = .ok (.tuple #[.pointer none, .bool false]) w := ta_no (E := 120) (by kernel_rfl) (fun _ => by kernel_rfl) D x X w hne
theorem ta_no_Function (D : TypeId) (x : Value) (X : TypeId) (w : World) (hne : D ≠ 66) : (Instr.typeAssert (.iface D x) X 66 true).run Try.prog w = .ok (.tuple #[.pointer none, .bool false]) w := ta_no (E := 77) (by kernel_rfl) (fun _ => by kernel_rfl) D x X w hne
theorem ta_no_Import (D : TypeId) (x : Value) (X : TypeId) (w : World) (hne : D ≠ 92) : (Instr.typeAssert (.iface D x) X 92 true).run Try.prog w = .ok (.tuple #[.pointer none, .bool false]) w := ta_no (E := 98) (by kernel_rfl) (fun _ => by kernel_rfl) D x X w hne
theorem ta_no_Index (D : TypeId) (x : Value) (X : TypeId) (w : World) (hne : D ≠ 121) : (Instr.typeAssert (.iface D x) X 121 true).run Try.prog w = .ok (.tuple #[.pointer none, .bool false]) w := ta_no (E := 124) (by kernel_rfl) (fun _ => by kernel_rfl) D x X w hne
theorem ta_no_InSuper (D : TypeId) (x : Value) (X : TypeId) (w : World) (hne : D ≠ 125) : (Instr.typeAssert (.iface D x) X 125 true).run Try.prog w = .ok (.tuple #[.pointer none, .bool false]) w := ta_no (E := 127) (by kernel_rfl) (fun _ => by kernel_rfl) D x X w hne
theorem ta_no_LiteralNull (D : TypeId) (x : Value) (X : TypeId) (w : World) (hne : D ≠ 78) : (Instr.typeAssert (.iface D x) X 78 true).run Try.prog w = .ok (.tuple #[.pointer none, .bool false]) w := ta_no (E := 80) (by kernel_rfl) (fun _ => by kernel_rfl) D x X w hne
theorem ta_no_LiteralString (D : TypeId) (x : Value) (X : TypeId) (w : World) (hne : D ≠ 93) : (Instr.typeAssert (.iface D x) X 93 true).run Try.prog w = .ok (.tuple #[.pointer none, .bool false]) w := ta_no (E := 96) (by kernel_rfl) (fun _ => by kernel_rfl) D x X w hne
theorem ta_no_Local (D : TypeId) (x : Value) (X : TypeId) (w : World) (hne : D ≠ 34) : (Instr.typeAssert (.iface D x) X 34 true).run Try.prog w = .ok (.tuple #[.pointer none, .bool false]) w := ta_no (E := 60) (by kernel_rfl) (fun _ => by kernel_rfl) D x X w hne
theorem ta_no_Slice (D : TypeId) (x : Value) (X : TypeId) (w : World) (hne : D ≠ 128) : (Instr.typeAssert (.iface D x) X 128 true).run Try.prog w = .ok (.tuple #[.pointer none, .bool false]) w := ta_no (E := 130) (by kernel_rfl) (fun _ => by kernel_rfl) D x X w hne
theorem ta_yes_Apply (x : Value) (X : TypeId) (w : World) : (Instr.typeAssert (.iface 107 x) X 107 true).run Try.prog w = .ok (.tuple #[x, .bool true]) w := ta_yes (E := 113) (by kernel_rfl) x X w
theorem ta_yes_ApplyBrace (x : Value) (X : TypeId) (w : World) : (Instr.typeAssert (.iface 114 x) X 114 true).run Try.prog w = .ok (.tuple #[x, .bool true]) w := ta_yes (E := 116) (by kernel_rfl) x X w
theorem ta_yes_Binary (x : Value) (X : TypeId) (w : World) : (Instr.typeAssert (.iface 117 x) X 117 true).run Try.prog w = .ok (.tuple #[x, .bool true]) w := ta_yes (E := 120) (by kernel_rfl) x X w
theorem ta_yes_Function (x : Value) (X : TypeId) (w : World) : (Instr.typeAssert (.iface 66 x) X 66 true).run Try.prog w = .ok (.tuple #[x, .bool true]) w := ta_yes (E := 77) (by kernel_rfl) x X w
theorem ta_yes_Import (x : Value) (X : TypeId) (w : World) : (Instr.typeAssert (.iface 92 x) X 92 true).run Try.prog w = .ok (.tuple #[x, .bool true]) w := ta_yes (E := 98) (by kernel_rfl) x X w
theorem ta_yes_Index (x : Value) (X : TypeId) (w : World) : (Instr.typeAssert (.iface 121 x) X 121 true).run Try.prog w = .ok (.tuple #[x, .bool true]) w := ta_yes (E := 124) (by kernel_rfl) x X w
theorem ta_yes_InSuper (x : Value) (X : TypeId) (w : World) : (Instr.typeAssert (.iface 125 x) X 125 true).run Try.prog w = .ok (.tuple #[x, .bool true]) w := ta_yes (E := 127) (by kernel_rfl) x X w
theorem ta_yes_LiteralNull (x : Value) (X : TypeId) (w : World) : (Instr.typeAssert (.iface 78 x) X 78 true).run Try.prog w = .ok (.tuple #[x, .bool true]) w := ta_yes (E := 80) (by kernel_rfl) x X w
theorem ta_yes_LiteralString (x : Value) (X : TypeId) (w : World) : (Instr.typeAssert (.iface 93 x) X 93 true).run Try.prog w = .ok (.tuple #[x, .bool true]) w := ta_yes (E := 96) (by kernel_rfl) x X w
theorem ta_yes_Local (x : Value) (X : TypeId) (w : World) : (Instr.typeAssert (.iface 34 x) X 34 true).run Try.prog w = .ok (.tuple #[x, .bool true]) w := ta_yes (E := 60) (by kernel_rfl) x X w
theorem ta_yes_Slice (x : Value) (X : TypeId) (w : World) : (Instr.typeAssert (.iface 128 x) X 128 true).run Try.prog w = .ok (.tuple #[x, .bool true]) w := ta_yes (E := 130) (by kernel_rfl) x X w

/-- What a cell of a block that is known whole holds. -/
theorem cell_of_block {w : World} {b : Nat} {cs : Array Value} {t : TypeId} (h : w.heap[b]? = some (.cells cs t (0, 0))) (o : Nat) : w.cell? ⟨b, o, none⟩ = cs[o]? := by
  unfold World.cell?
  dsimp only
  rw [h]
  rfl
theorem frozen_of_block {w : World} {b : Nat} {cs : Array Value} {t : TypeId} (h : w.heap[b]? = some (.cells cs t (0, 0))) (o : Nat) : w.frozen? ⟨b, o, none⟩ = false := by
  unfold World.frozen?
  dsimp only
  rw [h]
  simp

set_option maxRecDepth 100000 in
theorem openFodder_base (w : World) (xb xo : Nat) :
    Calls Try.prog 58 #[.pointer (some ⟨xb, xo, none⟩)] w fun e w' => e = .returned (.pointer (some ⟨xb, xo, none⟩)) ∧ w = w' := by
  go_enter Try.func58, Try.ntmps58
  go_wp2_with fail
  go_ret
  exact ⟨rfl, rfl⟩

theorem openFodder_still (w : World) (xb xo : Nat) :
    Calls Try.prog 58 #[.pointer (some ⟨xb, xo, none⟩)] w fun e w' => e = .returned (.pointer (some ⟨xb, xo, none⟩)) ∧ w' = w :=
  (openFodder_base w xb xo).mono fun _ _ h => ⟨h.1, h.2.symm⟩


end Go.Proofs.Ytddcpnhpjgeldaa
