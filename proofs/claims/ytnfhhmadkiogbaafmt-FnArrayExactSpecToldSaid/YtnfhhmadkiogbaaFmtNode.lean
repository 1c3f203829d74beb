/- Words for nodes in memory: cells of blocks known whole, type switches, the callees that do nothing. -/
import Derived.Test.YtnfhhmadkiogbaaFmtCom
import Derived.Handy
import Derived.StillTailTactics
import Derived.Deep.RegionWith
namespace Go.Proofs.YtnfhhmadkiogbaaFmt
open Go.ChangeShapes Go.WideShapes Go.ChangeAt Go.RowKit

/-- To write into a cell what it holds changes nothing. -/
theorem setCell_self {w : World} {p : Addr} {v : Value} (h : w.cell? p = some v) : w.setCell p v = w := by
  have e : (w.setCell p v).heap = w.heap := by
    unfold World.setCell
    dsimp only
    apply Array.ext_getElem?
    intro k
    rw [Array.getElem?_modify]
    split
    · rename_i hk
      subst hk
      unfold World.cell? at h
      split at h
      · rename_i c t f hg
        split at h
        · cases h
        · rename_i hs
          rw [hg]
          simp only [Option.map_some, hs]
          congr 2
          apply Array.ext_getElem?
          intro j
          simp only [Bool.false_eq_true, if_false]
          rw [Array.getElem?_setIfInBounds]
          split
          · rename_i hj
            subst hj
            split
            · exact h.symm
            · rw [Array.getElem?_eq_none (by omega)] at h; cases h
          · rfl
      · cases h
    · rfl
  have : w.setCell p v = { w with heap := (w.setCell p v).heap } := rfl
  rw [this, e]

theorem Fod.low {w : World} {b b' : Nat} {v : Value} {l : List FE} (h : Fod w b v l) (hb : b' ≤ b) : Fod w b' v l := by
  refine ⟨h.1, ?_⟩
  rcases h.2 with h | ⟨g, cap, cur, e1, e2, e3⟩
  · exact Or.inl h
  · exact Or.inr ⟨g, cap, cur, e1, Nat.le_trans hb e2, e3⟩

theorem fod_nil (w : World) (base : Nat) : Fod w base (.slice none 0 0) [] := World.ownsRow_nil _ _ _ _

theorem Fod.isSlice {w : World} {base : Nat} {v : Value} {l : List FE} (h : Fod w base v l) : ∃ a n c, v = .slice a n c := by
  obtain ⟨a, c, h, _⟩ := h.slice
  exact ⟨_, _, _, h⟩

theorem ta_no {T E : TypeId} (hu : Tryf.prog.underlying T = some (.pointer E)) (hz : ∀ w, (zeroValue T).run Tryf.prog w = .ok (.pointer none) w) (D : TypeId) (x : Value) (X : TypeId) (w : World) (hne : D ≠ T) :
    (Instr.typeAssert (.iface D x) X T true).run Tryf.prog w = .ok (.tuple #[.pointer none, .bool false]) w := by
  have hur : (underlying T).run Tryf.prog w = .ok (.pointer E) w := by
    have hprog : program.run Tryf.prog w = .ok Tryf.prog w := rfl
    unfold underlying
    simp [hprog, go_sem, hu]
  unfold Instr.typeAssert
  simp [go_sem, hur, hne, hz]
theorem ta_yes {T E : TypeId} (hu : Tryf.prog.underlying T = some (.pointer E)) (x : Value) (X : TypeId) (w : World) :
    (Instr.typeAssert (.iface T x) X T true).run Tryf.prog w = .ok (.tuple #[x, .bool true]) w := by
  have hur : (underlying T).run Tryf.prog w = .ok (.pointer E) w := by
    have hprog : program.run Tryf.prog w = .ok Tryf.prog w := rfl
    unfold underlying
    simp [hprog, go_sem, hu]
  unfold Instr.typeAssert
  simp [go_sem, hur]
theorem ta_no_Apply (D : TypeId) (x : Value) (X : TypeId) (w : World) (hne : D ≠ 113) : (Instr.typeAssert (.iface D x) X 113 true).run Tryf.prog w = .ok (.tuple #[.pointer none, .bool false]) w := ta_no (E := 178) (by kernel_rfl) (fun _ => by kernel_rfl) D x X w hne
theorem ta_no_ApplyBrace (D : TypeId) (x : Value) (X : TypeId) (w : World) (hne : D ≠ 115) : (Instr.typeAssert (.iface D x) X 115 true).run Tryf.prog w = .ok (.tuple #[.pointer none, .bool false]) w := ta_no (E := 181) (by kernel_rfl) (fun _ => by kernel_rfl) D x X w hne
theorem ta_no_Array (D : TypeId) (x : Value) (X : TypeId) (w : World) (hne : D ≠ 53) : (Instr.typeAssert (.iface D x) X 53 true).run Tryf.prog w = .ok (.tuple #[.pointer none, .bool false]) w := ta_no (E := 55) (by kernel_rfl) (fun _ => by kernel_rfl) D x X w hne
theorem ta_no_ArrayComp (D : TypeId) (x : Value) (X : TypeId) (w : World) (hne : D ≠ 117) : (Instr.typeAssert (.iface D x) X 117 true).run Tryf.prog w = .ok (.tuple #[.pointer none, .bool false]) w := ta_no (E := 191) (by kernel_rfl) (fun _ => by kernel_rfl) D x X w hne
theorem ta_no_Assert (D : TypeId) (x : Value) (X : TypeId) (w : World) (hne : D ≠ 119) : (Instr.typeAssert (.iface D x) X 119 true).run Tryf.prog w = .ok (.tuple #[.pointer none, .bool false]) w := ta_no (E := 193) (by kernel_rfl) (fun _ => by kernel_rfl) D x X w hne
theorem ta_no_Binary (D : TypeId) (x : Value) (X : TypeId) (w : World) (hne : D ≠ 121) : (Instr.typeAssert (.iface D x) X 121 true).run Tryf.prog w = .ok (.tuple #[.pointer none, .bool false]) w := ta_no (E := 196) (by kernel_rfl) (fun _ => by kernel_rfl) D x X w hne
theorem ta_no_Conditional (D : TypeId) (x : Value) (X : TypeId) (w : World) (hne : D ≠ 123) : (Instr.typeAssert (.iface D x) X 123 true).run Tryf.prog w = .ok (.tuple #[.pointer none, .bool false]) w := ta_no (E := 198) (by kernel_rfl) (fun _ => by kernel_rfl) D x X w hne
theorem ta_no_Dollar (D : TypeId) (x : Value) (X : TypeId) (w : World) (hne : D ≠ 125) : (Instr.typeAssert (.iface D x) X 125 true).run Tryf.prog w = .ok (.tuple #[.pointer none, .bool false]) w := ta_no (E := 252) (by kernel_rfl) (fun _ => by kernel_rfl) D x X w hne
theorem ta_no_Error (D : TypeId) (x : Value) (X : TypeId) (w : World) (hne : D ≠ 127) : (Instr.typeAssert (.iface D x) X 127 true).run Tryf.prog w = .ok (.tuple #[.pointer none, .bool false]) w := ta_no (E := 167) (by kernel_rfl) (fun _ => by kernel_rfl) D x X w hne
theorem ta_no_Function (D : TypeId) (x : Value) (X : TypeId) (w : World) (hne : D ≠ 128) : (Instr.typeAssert (.iface D x) X 128 true).run Tryf.prog w = .ok (.tuple #[.pointer none, .bool false]) w := ta_no (E := 204) (by kernel_rfl) (fun _ => by kernel_rfl) D x X w hne
theorem ta_no_Import (D : TypeId) (x : Value) (X : TypeId) (w : World) (hne : D ≠ 130) : (Instr.typeAssert (.iface D x) X 130 true).run Tryf.prog w = .ok (.tuple #[.pointer none, .bool false]) w := ta_no (E := 210) (by kernel_rfl) (fun _ => by kernel_rfl) D x X w hne
theorem ta_no_ImportStr (D : TypeId) (x : Value) (X : TypeId) (w : World) (hne : D ≠ 132) : (Instr.typeAssert (.iface D x) X 132 true).run Tryf.prog w = .ok (.tuple #[.pointer none, .bool false]) w := ta_no (E := 212) (by kernel_rfl) (fun _ => by kernel_rfl) D x X w hne
theorem ta_no_ImportBin (D : TypeId) (x : Value) (X : TypeId) (w : World) (hne : D ≠ 134) : (Instr.typeAssert (.iface D x) X 134 true).run Tryf.prog w = .ok (.tuple #[.pointer none, .bool false]) w := ta_no (E := 211) (by kernel_rfl) (fun _ => by kernel_rfl) D x X w hne
theorem ta_no_Index (D : TypeId) (x : Value) (X : TypeId) (w : World) (hne : D ≠ 136) : (Instr.typeAssert (.iface D x) X 136 true).run Tryf.prog w = .ok (.tuple #[.pointer none, .bool false]) w := ta_no (E := 217) (by kernel_rfl) (fun _ => by kernel_rfl) D x X w hne
theorem ta_no_InSuper (D : TypeId) (x : Value) (X : TypeId) (w : World) (hne : D ≠ 138) : (Instr.typeAssert (.iface D x) X 138 true).run Tryf.prog w = .ok (.tuple #[.pointer none, .bool false]) w := ta_no (E := 214) (by kernel_rfl) (fun _ => by kernel_rfl) D x X w hne
theorem ta_no_LiteralBoolean (D : TypeId) (x : Value) (X : TypeId) (w : World) (hne : D ≠ 140) : (Instr.typeAssert (.iface D x) X 140 true).run Tryf.prog w = .ok (.tuple #[.pointer none, .bool false]) w := ta_no (E := 254) (by kernel_rfl) (fun _ => by kernel_rfl) D x X w hne
theorem ta_no_LiteralNull (D : TypeId) (x : Value) (X : TypeId) (w : World) (hne : D ≠ 27) : (Instr.typeAssert (.iface D x) X 27 true).run Tryf.prog w = .ok (.tuple #[.pointer none, .bool false]) w := ta_no (E := 42) (by kernel_rfl) (fun _ => by kernel_rfl) D x X w hne
theorem ta_no_LiteralNumber (D : TypeId) (x : Value) (X : TypeId) (w : World) (hne : D ≠ 143) : (Instr.typeAssert (.iface D x) X 143 true).run Tryf.prog w = .ok (.tuple #[.pointer none, .bool false]) w := ta_no (E := 256) (by kernel_rfl) (fun _ => by kernel_rfl) D x X w hne
theorem ta_no_LiteralString (D : TypeId) (x : Value) (X : TypeId) (w : World) (hne : D ≠ 145) : (Instr.typeAssert (.iface D x) X 145 true).run Tryf.prog w = .ok (.tuple #[.pointer none, .bool false]) w := ta_no (E := 208) (by kernel_rfl) (fun _ => by kernel_rfl) D x X w hne
theorem ta_no_Local (D : TypeId) (x : Value) (X : TypeId) (w : World) (hne : D ≠ 147) : (Instr.typeAssert (.iface D x) X 147 true).run Tryf.prog w = .ok (.tuple #[.pointer none, .bool false]) w := ta_no (E := 221) (by kernel_rfl) (fun _ => by kernel_rfl) D x X w hne
theorem ta_no_Object (D : TypeId) (x : Value) (X : TypeId) (w : World) (hne : D ≠ 149) : (Instr.typeAssert (.iface D x) X 149 true).run Tryf.prog w = .ok (.tuple #[.pointer none, .bool false]) w := ta_no (E := 229) (by kernel_rfl) (fun _ => by kernel_rfl) D x X w hne
theorem ta_no_ObjectComp (D : TypeId) (x : Value) (X : TypeId) (w : World) (hne : D ≠ 151) : (Instr.typeAssert (.iface D x) X 151 true).run Tryf.prog w = .ok (.tuple #[.pointer none, .bool false]) w := ta_no (E := 231) (by kernel_rfl) (fun _ => by kernel_rfl) D x X w hne
theorem ta_no_Parens (D : TypeId) (x : Value) (X : TypeId) (w : World) (hne : D ≠ 153) : (Instr.typeAssert (.iface D x) X 153 true).run Tryf.prog w = .ok (.tuple #[.pointer none, .bool false]) w := ta_no (E := 241) (by kernel_rfl) (fun _ => by kernel_rfl) D x X w hne
theorem ta_no_Self (D : TypeId) (x : Value) (X : TypeId) (w : World) (hne : D ≠ 155) : (Instr.typeAssert (.iface D x) X 155 true).run Tryf.prog w = .ok (.tuple #[.pointer none, .bool false]) w := ta_no (E := 257) (by kernel_rfl) (fun _ => by kernel_rfl) D x X w hne
theorem ta_no_Slice (D : TypeId) (x : Value) (X : TypeId) (w : World) (hne : D ≠ 157) : (Instr.typeAssert (.iface D x) X 157 true).run Tryf.prog w = .ok (.tuple #[.pointer none, .bool false]) w := ta_no (E := 243) (by kernel_rfl) (fun _ => by kernel_rfl) D x X w hne
theorem ta_no_SuperIndex (D : TypeId) (x : Value) (X : TypeId) (w : World) (hne : D ≠ 159) : (Instr.typeAssert (.iface D x) X 159 true).run Tryf.prog w = .ok (.tuple #[.pointer none, .bool false]) w := ta_no (E := 245) (by kernel_rfl) (fun _ => by kernel_rfl) D x X w hne
theorem ta_no_Unary (D : TypeId) (x : Value) (X : TypeId) (w : World) (hne : D ≠ 161) : (Instr.typeAssert (.iface D x) X 161 true).run Tryf.prog w = .ok (.tuple #[.pointer none, .bool false]) w := ta_no (E := 248) (by kernel_rfl) (fun _ => by kernel_rfl) D x X w hne
theorem ta_no_Var (D : TypeId) (x : Value) (X : TypeId) (w : World) (hne : D ≠ 163) : (Instr.typeAssert (.iface D x) X 163 true).run Tryf.prog w = .ok (.tuple #[.pointer none, .bool false]) w := ta_no (E := 259) (by kernel_rfl) (fun _ => by kernel_rfl) D x X w hne
theorem ta_yes_Apply (x : Value) (X : TypeId) (w : World) : (Instr.typeAssert (.iface 113 x) X 113 true).run Tryf.prog w = .ok (.tuple #[x, .bool true]) w := ta_yes (E := 178) (by kernel_rfl) x X w
theorem ta_yes_ApplyBrace (x : Value) (X : TypeId) (w : World) : (Instr.typeAssert (.iface 115 x) X 115 true).run Tryf.prog w = .ok (.tuple #[x, .bool true]) w := ta_yes (E := 181) (by kernel_rfl) x X w
theorem ta_yes_Array (x : Value) (X : TypeId) (w : World) : (Instr.typeAssert (.iface 53 x) X 53 true).run Tryf.prog w = .ok (.tuple #[x, .bool true]) w := ta_yes (E := 55) (by kernel_rfl) x X w
theorem ta_yes_ArrayComp (x : Value) (X : TypeId) (w : World) : (Instr.typeAssert (.iface 117 x) X 117 true).run Tryf.prog w = .ok (.tuple #[x, .bool true]) w := ta_yes (E := 191) (by kernel_rfl) x X w
theorem ta_yes_Assert (x : Value) (X : TypeId) (w : World) : (Instr.typeAssert (.iface 119 x) X 119 true).run Tryf.prog w = .ok (.tuple #[x, .bool true]) w := ta_yes (E := 193) (by kernel_rfl) x X w
theorem ta_yes_Binary (x : Value) (X : TypeId) (w : World) : (Instr.typeAssert (.iface 121 x) X 121 true).run Tryf.prog w = .ok (.tuple #[x, .bool true]) w := ta_yes (E := 196) (by kernel_rfl) x X w
theorem ta_yes_Conditional (x : Value) (X : TypeId) (w : World) : (Instr.typeAssert (.iface 123 x) X 123 true).run Tryf.prog w = .ok (.tuple #[x, .bool true]) w := ta_yes (E := 198) (by kernel_rfl) x X w
theorem ta_yes_Dollar (x : Value) (X : TypeId) (w : World) : (Instr.typeAssert (.iface 125 x) X 125 true).run Tryf.prog w = .ok (.tuple #[x, .bool true]) w := ta_yes (E := 252) (by kernel_rfl) x X w
theorem ta_yes_Error (x : Value) (X : TypeId) (w : World) : (Instr.typeAssert (.iface 127 x) X 127 true).run Tryf.prog w = .ok (.tuple #[x, .bool true]) w := ta_yes (E := 167) (by kernel_rfl) x X w
theorem ta_yes_Function (x : Value) (X : TypeId) (w : World) : (Instr.typeAssert (.iface 128 x) X 128 true).run Tryf.prog w = .ok (.tuple #[x, .bool true]) w := ta_yes (E := 204) (by kernel_rfl) x X w
theorem ta_yes_Import (x : Value) (X : TypeId) (w : World) : (Instr.typeAssert (.iface 130 x) X 130 true).run Tryf.prog w = .ok (.tuple #[x, .bool true]) w := ta_yes (E := 210) (by kernel_rfl) x X w
theorem ta_yes_ImportStr (x : Value) (X : TypeId) (w : World) : (Instr.typeAssert (.iface 132 x) X 132 true).run Tryf.prog w = .ok (.tuple #[x, .bool true]) w := ta_yes (E := 212) (by kernel_rfl) x X w
theorem ta_yes_ImportBin (x : Value) (X : TypeId) (w : World) : (Instr.typeAssert (.iface 134 x) X 134 true).run Tryf.prog w = .ok (.tuple #[x, .bool true]) w := ta_yes (E := 211) (by kernel_rfl) x X w
theorem ta_yes_Index (x : Value) (X : TypeId) (w : World) : (Instr.typeAssert (.iface 136 x) X 136 true).run Tryf.prog w = .ok (.tuple #[x, .bool true]) w := ta_yes (E := 217) (by kernel_rfl) x X w
theorem ta_yes_InSuper (x : Value) (X : TypeId) (w : World) : (Instr.typeAssert (.iface 138 x) X 138 true).run Tryf.prog w = .ok (.tuple #[x, .bool true]) w := ta_yes (E := 214) (by kernel_rfl) x X w
theorem ta_yes_LiteralBoolean (x : Value) (X : TypeId) (w : World) : (Instr.typeAssert (.iface 140 x) X 140 true).run Tryf.prog w = .ok (.tuple #[x, .bool true]) w := ta_yes (E := 254) (by kernel_rfl) x X w
theorem ta_yes_LiteralNull (x : Value) (X : TypeId) (w : World) : (Instr.typeAssert (.iface 27 x) X 27 true).run Tryf.prog w = .ok (.tuple #[x, .bool true]) w := ta_yes (E := 42) (by kernel_rfl) x X w
theorem ta_yes_LiteralNumber (x : Value) (X : TypeId) (w : World) : (Instr.typeAssert (.iface 143 x) X 143 true).run Tryf.prog w = .ok (.tuple #[x, .bool true]) w := ta_yes (E := 256) (by kernel_rfl) x X w
theorem ta_yes_LiteralString (x : Value) (X : TypeId) (w : World) : (Instr.typeAssert (.iface 145 x) X 145 true).run Tryf.prog w = .ok (.tuple #[x, .bool true]) w := ta_yes (E := 208) (by kernel_rfl) x X w
theorem ta_yes_Local (x : Value) (X : TypeId) (w : World) : (Instr.typeAssert (.iface 147 x) X 147 true).run Tryf.prog w = .ok (.tuple #[x, .bool true]) w := ta_yes (E := 221) (by kernel_rfl) x X w
theorem ta_yes_Object (x : Value) (X : TypeId) (w : World) : (Instr.typeAssert (.iface 149 x) X 149 true).run Tryf.prog w = .ok (.tuple #[x, .bool true]) w := ta_yes (E := 229) (by kernel_rfl) x X w
theorem ta_yes_ObjectComp (x : Value) (X : TypeId) (w : World) : (Instr.typeAssert (.iface 151 x) X 151 true).run Tryf.prog w = .ok (.tuple #[x, .bool true]) w := ta_yes (E := 231) (by kernel_rfl) x X w
theorem ta_yes_Parens (x : Value) (X : TypeId) (w : World) : (Instr.typeAssert (.iface 153 x) X 153 true).run Tryf.prog w = .ok (.tuple #[x, .bool true]) w := ta_yes (E := 241) (by kernel_rfl) x X w
theorem ta_yes_Self (x : Value) (X : TypeId) (w : World) : (Instr.typeAssert (.iface 155 x) X 155 true).run Tryf.prog w = .ok (.tuple #[x, .bool true]) w := ta_yes (E := 257) (by kernel_rfl) x X w
theorem ta_yes_Slice (x : Value) (X : TypeId) (w : World) : (Instr.typeAssert (.iface 157 x) X 157 true).run Tryf.prog w = .ok (.tuple #[x, .bool true]) w := ta_yes (E := 243) (by kernel_rfl) x X w
theorem ta_yes_SuperIndex (x : Value) (X : TypeId) (w : World) : (Instr.typeAssert (.iface 159 x) X 159 true).run Tryf.prog w = .ok (.tuple #[x, .bool true]) w := ta_yes (E := 245) (by kernel_rfl) x X w
theorem ta_yes_Unary (x : Value) (X : TypeId) (w : World) : (Instr.typeAssert (.iface 161 x) X 161 true).run Tryf.prog w = .ok (.tuple #[x, .bool true]) w := ta_yes (E := 248) (by kernel_rfl) x X w
theorem ta_yes_Var (x : Value) (X : TypeId) (w : World) : (Instr.typeAssert (.iface 163 x) X 163 true).run Tryf.prog w = .ok (.tuple #[x, .bool true]) w := ta_yes (E := 259) (by kernel_rfl) x X w

/-- What a cell of a block that is known whole holds. -/
theorem cell_of_block {w : World} {b : Nat} {cs : Array Value} {t : TypeId} (h : w.heap[b]? = some (.cells cs t (0, 0))) (o : Nat) : w.cell? ⟨b, o, none⟩ = cs[o]? := by
  unfold World.cell?
  dsimp only
  rw [h]
  rfl
theorem frozen_of_block {w : World} {b : Nat} {cs : Array Value} {t : TypeId} (h : w.heap[b]? = some (.cells cs t (0, 0))) (o : Nat) : w.frozen? ⟨b, o, none⟩ = false := by
  unfold World.frozen?
  dsimp only
  rw [h]
  simp

set_option maxRecDepth 100000 in
theorem openFodder_base (w : World) (xb xo : Nat) :
    Calls Tryf.prog 41 #[.pointer (some ⟨xb, xo, none⟩)] w fun e w' => e = .returned (.pointer (some ⟨xb, xo, none⟩)) ∧ w = w' := by
  go_enter Tryf.func41, Tryf.ntmps41
  go_wp2_with fail
  go_ret
  exact ⟨rfl, rfl⟩

theorem openFodder_still (w : World) (xb xo : Nat) :
    Calls Tryf.prog 41 #[.pointer (some ⟨xb, xo, none⟩)] w fun e w' => e = .returned (.pointer (some ⟨xb, xo, none⟩)) ∧ w' = w :=
  (openFodder_base w xb xo).mono fun _ _ h => ⟨h.1, h.2.symm⟩

set_option maxRecDepth 100000 in
theorem passFodderElement (w : World) (a b c d : Value) :
    Calls Tryf.prog 58 #[a, b, c, d] w fun e w' => e = .returned (.tuple #[]) ∧ w = w' := by
  go_enter Tryf.func58, Tryf.ntmps58
  go_wp2_with fail
  go_end0
  exact ⟨rfl, rfl⟩

end Go.Proofs.YtnfhhmadkiogbaaFmt
