/- Words for nodes in memory: cells of blocks known whole, type switches, the callees that do nothing. -/
import Derived.Test.YtgdipdbmllkckaaGreatFmtCom
import Derived.Handy
import Derived.StillTailTactics
import Derived.Deep.RegionWith
namespace Go.Proofs.YtgdipdbmllkckaaGreatFmt
open Go.ChangeShapes Go.WideShapes Go.ChangeAt Go.RowKit

/-- To write into a cell what it holds changes nothing. -/
theorem setCell_self {w : World} {p : Addr} {v : Value} (h : w.cell? p = some v) : w.setCell p v = w := by
  have e : (w.setCell p v).heap = w.heap := by
    unfold World.setCell
    dsimp only
    apply Array.ext_getElem?
    intro k
    rw [Array.getElem?_modify]
    split
    · rename_i hk
      subst hk
      unfold World.cell? at h
      split at h
      · rename_i c t f hg
        split at h
        · cases h
        · rename_i hs
          rw [hg]
          simp only [Option.map_some, hs]
          congr 2
          apply Array.ext_getElem?
          intro j
          simp only [Bool.false_eq_true, if_false]
          rw [Array.getElem?_setIfInBounds]
          split
          · rename_i hj
            subst hj
            split
            · exact h.symm
            · rw [Array.getElem?_eq_none (by omega)] at h; cases h
          · rfl
      · cases h
    · rfl
  have : w.setCell p v = { w with heap := (w.setCell p v).heap } := rfl
  rw [this, e]

theorem Fod.low {w : World} {b b' : Nat} {v : Value} {l : List FE} (h : Fod w b v l) (hb : b' ≤ b) : Fod w b' v l := by
  refine ⟨h.1, ?_⟩
  rcases h.2 with h | ⟨g, cap, cur, e1, e2, e3⟩
  · exact Or.inl h
  · exact Or.inr ⟨g, cap, cur, e1, Nat.le_trans hb e2, e3⟩

theorem fod_nil (w : World) (base : Nat) : Fod w base (.slice none 0 0) [] := World.ownsRow_nil _ _ _ _

theorem Fod.isSlice {w : World} {base : Nat} {v : Value} {l : List FE} (h : Fod w base v l) : ∃ a n c, v = .slice a n c := by
  obtain ⟨a, c, h, _⟩ := h.slice
  exact ⟨_, _, _, h⟩

theorem ta_no {T E : TypeId} (hu : Tryz.prog.underlying T = some (.pointer E)) (hz : ∀ w, (zeroValue T).run Tryz.prog w = .ok (.pointer none) w) (D : TypeId) (x : Value) (X : TypeId) (w : World) (hne : D ≠ T) :
    (Instr.typeAssert (.iface D x) X T true).run Tryz.prog w = .ok (.tuple #[.pointer none, .bool false]) w := by
  have hur : (underlying T).run Tryz.prog w = .ok (.pointer E) w := by
    have hprog : program.run Tryz.prog w = .ok Tryz.prog w := rfl
    unfold underlying
    simp [hprog, go_sem, hu]
  unfold Instr.typeAssert
  simp [go_sem, hur, hne, hz]
theorem ta_yes {T E : TypeId} (hu : Tryz.prog.underlying T = some (.pointer E)) (x : Value) (X : TypeId) (w : World) :
    (Instr.typeAssert (.iface T x) X T true).run Tryz.prog w = .ok (.tuple #[x, .bool true]) w := by
  have hur : (underlying T).run Tryz.prog w = .ok (.pointer E) w := by
    have hprog : program.run Tryz.prog w = .ok Tryz.prog w := rfl
    unfold underlying
    simp [hprog, go_sem, hu]
  unfold Instr.typeAssert
  simp [go_sem, hur]
theorem ta_no_Apply (D : TypeId) (x : Value) (X : TypeId) (w : World) (hne : D ≠ 134) : (Instr.typeAssert (.iface D x) X 134 true).run Tryz.prog w = .ok (.tuple #[.pointer none, .bool false]) w := ta_no (E := 140) (by kernel_rfl) (fun _ => by kernel_rfl) D x X w hne
theorem ta_no_ApplyBrace (D : TypeId) (x : Value) (X : TypeId) (w : World) (hne : D ≠ 141) : (Instr.typeAssert (.iface D x) X 141 true).run Tryz.prog w = .ok (.tuple #[.pointer none, .bool false]) w := ta_no (E := 143) (by kernel_rfl) (fun _ => by kernel_rfl) D x X w hne
theorem ta_no_Array (D : TypeId) (x : Value) (X : TypeId) (w : World) (hne : D ≠ 225) : (Instr.typeAssert (.iface D x) X 225 true).run Tryz.prog w = .ok (.tuple #[.pointer none, .bool false]) w := ta_no (E := 253) (by kernel_rfl) (fun _ => by kernel_rfl) D x X w hne
theorem ta_no_ArrayComp (D : TypeId) (x : Value) (X : TypeId) (w : World) (hne : D ≠ 226) : (Instr.typeAssert (.iface D x) X 226 true).run Tryz.prog w = .ok (.tuple #[.pointer none, .bool false]) w := ta_no (E := 255) (by kernel_rfl) (fun _ => by kernel_rfl) D x X w hne
theorem ta_no_Assert (D : TypeId) (x : Value) (X : TypeId) (w : World) (hne : D ≠ 227) : (Instr.typeAssert (.iface D x) X 227 true).run Tryz.prog w = .ok (.tuple #[.pointer none, .bool false]) w := ta_no (E := 257) (by kernel_rfl) (fun _ => by kernel_rfl) D x X w hne
theorem ta_no_Binary (D : TypeId) (x : Value) (X : TypeId) (w : World) (hne : D ≠ 144) : (Instr.typeAssert (.iface D x) X 144 true).run Tryz.prog w = .ok (.tuple #[.pointer none, .bool false]) w := ta_no (E := 147) (by kernel_rfl) (fun _ => by kernel_rfl) D x X w hne
theorem ta_no_Conditional (D : TypeId) (x : Value) (X : TypeId) (w : World) (hne : D ≠ 228) : (Instr.typeAssert (.iface D x) X 228 true).run Tryz.prog w = .ok (.tuple #[.pointer none, .bool false]) w := ta_no (E := 259) (by kernel_rfl) (fun _ => by kernel_rfl) D x X w hne
theorem ta_no_Dollar (D : TypeId) (x : Value) (X : TypeId) (w : World) (hne : D ≠ 229) : (Instr.typeAssert (.iface D x) X 229 true).run Tryz.prog w = .ok (.tuple #[.pointer none, .bool false]) w := ta_no (E := 283) (by kernel_rfl) (fun _ => by kernel_rfl) D x X w hne
theorem ta_no_Error (D : TypeId) (x : Value) (X : TypeId) (w : World) (hne : D ≠ 230) : (Instr.typeAssert (.iface D x) X 230 true).run Tryz.prog w = .ok (.tuple #[.pointer none, .bool false]) w := ta_no (E := 244) (by kernel_rfl) (fun _ => by kernel_rfl) D x X w hne
theorem ta_no_Function (D : TypeId) (x : Value) (X : TypeId) (w : World) (hne : D ≠ 69) : (Instr.typeAssert (.iface D x) X 69 true).run Tryz.prog w = .ok (.tuple #[.pointer none, .bool false]) w := ta_no (E := 184) (by kernel_rfl) (fun _ => by kernel_rfl) D x X w hne
theorem ta_no_Import (D : TypeId) (x : Value) (X : TypeId) (w : World) (hne : D ≠ 231) : (Instr.typeAssert (.iface D x) X 231 true).run Tryz.prog w = .ok (.tuple #[.pointer none, .bool false]) w := ta_no (E := 261) (by kernel_rfl) (fun _ => by kernel_rfl) D x X w hne
theorem ta_no_ImportStr (D : TypeId) (x : Value) (X : TypeId) (w : World) (hne : D ≠ 232) : (Instr.typeAssert (.iface D x) X 232 true).run Tryz.prog w = .ok (.tuple #[.pointer none, .bool false]) w := ta_no (E := 263) (by kernel_rfl) (fun _ => by kernel_rfl) D x X w hne
theorem ta_no_ImportBin (D : TypeId) (x : Value) (X : TypeId) (w : World) (hne : D ≠ 233) : (Instr.typeAssert (.iface D x) X 233 true).run Tryz.prog w = .ok (.tuple #[.pointer none, .bool false]) w := ta_no (E := 262) (by kernel_rfl) (fun _ => by kernel_rfl) D x X w hne
theorem ta_no_Index (D : TypeId) (x : Value) (X : TypeId) (w : World) (hne : D ≠ 148) : (Instr.typeAssert (.iface D x) X 148 true).run Tryz.prog w = .ok (.tuple #[.pointer none, .bool false]) w := ta_no (E := 150) (by kernel_rfl) (fun _ => by kernel_rfl) D x X w hne
theorem ta_no_InSuper (D : TypeId) (x : Value) (X : TypeId) (w : World) (hne : D ≠ 151) : (Instr.typeAssert (.iface D x) X 151 true).run Tryz.prog w = .ok (.tuple #[.pointer none, .bool false]) w := ta_no (E := 153) (by kernel_rfl) (fun _ => by kernel_rfl) D x X w hne
theorem ta_no_LiteralBoolean (D : TypeId) (x : Value) (X : TypeId) (w : World) (hne : D ≠ 234) : (Instr.typeAssert (.iface D x) X 234 true).run Tryz.prog w = .ok (.tuple #[.pointer none, .bool false]) w := ta_no (E := 285) (by kernel_rfl) (fun _ => by kernel_rfl) D x X w hne
theorem ta_no_LiteralNull (D : TypeId) (x : Value) (X : TypeId) (w : World) (hne : D ≠ 104) : (Instr.typeAssert (.iface D x) X 104 true).run Tryz.prog w = .ok (.tuple #[.pointer none, .bool false]) w := ta_no (E := 106) (by kernel_rfl) (fun _ => by kernel_rfl) D x X w hne
theorem ta_no_LiteralNumber (D : TypeId) (x : Value) (X : TypeId) (w : World) (hne : D ≠ 235) : (Instr.typeAssert (.iface D x) X 235 true).run Tryz.prog w = .ok (.tuple #[.pointer none, .bool false]) w := ta_no (E := 287) (by kernel_rfl) (fun _ => by kernel_rfl) D x X w hne
theorem ta_no_LiteralString (D : TypeId) (x : Value) (X : TypeId) (w : World) (hne : D ≠ 68) : (Instr.typeAssert (.iface D x) X 68 true).run Tryz.prog w = .ok (.tuple #[.pointer none, .bool false]) w := ta_no (E := 101) (by kernel_rfl) (fun _ => by kernel_rfl) D x X w hne
theorem ta_no_Local (D : TypeId) (x : Value) (X : TypeId) (w : World) (hne : D ≠ 236) : (Instr.typeAssert (.iface D x) X 236 true).run Tryz.prog w = .ok (.tuple #[.pointer none, .bool false]) w := ta_no (E := 267) (by kernel_rfl) (fun _ => by kernel_rfl) D x X w hne
theorem ta_no_Object (D : TypeId) (x : Value) (X : TypeId) (w : World) (hne : D ≠ 237) : (Instr.typeAssert (.iface D x) X 237 true).run Tryz.prog w = .ok (.tuple #[.pointer none, .bool false]) w := ta_no (E := 272) (by kernel_rfl) (fun _ => by kernel_rfl) D x X w hne
theorem ta_no_ObjectComp (D : TypeId) (x : Value) (X : TypeId) (w : World) (hne : D ≠ 33) : (Instr.typeAssert (.iface D x) X 33 true).run Tryz.prog w = .ok (.tuple #[.pointer none, .bool false]) w := ta_no (E := 63) (by kernel_rfl) (fun _ => by kernel_rfl) D x X w hne
theorem ta_no_Parens (D : TypeId) (x : Value) (X : TypeId) (w : World) (hne : D ≠ 238) : (Instr.typeAssert (.iface D x) X 238 true).run Tryz.prog w = .ok (.tuple #[.pointer none, .bool false]) w := ta_no (E := 274) (by kernel_rfl) (fun _ => by kernel_rfl) D x X w hne
theorem ta_no_Self (D : TypeId) (x : Value) (X : TypeId) (w : World) (hne : D ≠ 239) : (Instr.typeAssert (.iface D x) X 239 true).run Tryz.prog w = .ok (.tuple #[.pointer none, .bool false]) w := ta_no (E := 288) (by kernel_rfl) (fun _ => by kernel_rfl) D x X w hne
theorem ta_no_Slice (D : TypeId) (x : Value) (X : TypeId) (w : World) (hne : D ≠ 154) : (Instr.typeAssert (.iface D x) X 154 true).run Tryz.prog w = .ok (.tuple #[.pointer none, .bool false]) w := ta_no (E := 156) (by kernel_rfl) (fun _ => by kernel_rfl) D x X w hne
theorem ta_no_SuperIndex (D : TypeId) (x : Value) (X : TypeId) (w : World) (hne : D ≠ 240) : (Instr.typeAssert (.iface D x) X 240 true).run Tryz.prog w = .ok (.tuple #[.pointer none, .bool false]) w := ta_no (E := 276) (by kernel_rfl) (fun _ => by kernel_rfl) D x X w hne
theorem ta_no_Unary (D : TypeId) (x : Value) (X : TypeId) (w : World) (hne : D ≠ 241) : (Instr.typeAssert (.iface D x) X 241 true).run Tryz.prog w = .ok (.tuple #[.pointer none, .bool false]) w := ta_no (E := 279) (by kernel_rfl) (fun _ => by kernel_rfl) D x X w hne
theorem ta_no_Var (D : TypeId) (x : Value) (X : TypeId) (w : World) (hne : D ≠ 242) : (Instr.typeAssert (.iface D x) X 242 true).run Tryz.prog w = .ok (.tuple #[.pointer none, .bool false]) w := ta_no (E := 290) (by kernel_rfl) (fun _ => by kernel_rfl) D x X w hne
theorem ta_yes_Apply (x : Value) (X : TypeId) (w : World) : (Instr.typeAssert (.iface 134 x) X 134 true).run Tryz.prog w = .ok (.tuple #[x, .bool true]) w := ta_yes (E := 140) (by kernel_rfl) x X w
theorem ta_yes_ApplyBrace (x : Value) (X : TypeId) (w : World) : (Instr.typeAssert (.iface 141 x) X 141 true).run Tryz.prog w = .ok (.tuple #[x, .bool true]) w := ta_yes (E := 143) (by kernel_rfl) x X w
theorem ta_yes_Array (x : Value) (X : TypeId) (w : World) : (Instr.typeAssert (.iface 225 x) X 225 true).run Tryz.prog w = .ok (.tuple #[x, .bool true]) w := ta_yes (E := 253) (by kernel_rfl) x X w
theorem ta_yes_ArrayComp (x : Value) (X : TypeId) (w : World) : (Instr.typeAssert (.iface 226 x) X 226 true).run Tryz.prog w = .ok (.tuple #[x, .bool true]) w := ta_yes (E := 255) (by kernel_rfl) x X w
theorem ta_yes_Assert (x : Value) (X : TypeId) (w : World) : (Instr.typeAssert (.iface 227 x) X 227 true).run Tryz.prog w = .ok (.tuple #[x, .bool true]) w := ta_yes (E := 257) (by kernel_rfl) x X w
theorem ta_yes_Binary (x : Value) (X : TypeId) (w : World) : (Instr.typeAssert (.iface 144 x) X 144 true).run Tryz.prog w = .ok (.tuple #[x, .bool true]) w := ta_yes (E := 147) (by kernel_rfl) x X w
theorem ta_yes_Conditional (x : Value) (X : TypeId) (w : World) : (Instr.typeAssert (.iface 228 x) X 228 true).run Tryz.prog w = .ok (.tuple #[x, .bool true]) w := ta_yes (E := 259) (by kernel_rfl) x X w
theorem ta_yes_Dollar (x : Value) (X : TypeId) (w : World) : (Instr.typeAssert (.iface 229 x) X 229 true).run Tryz.prog w = .ok (.tuple #[x, .bool true]) w := ta_yes (E := 283) (by kernel_rfl) x X w
theorem ta_yes_Error (x : Value) (X : TypeId) (w : World) : (Instr.typeAssert (.iface 230 x) X 230 true).run Tryz.prog w = .ok (.tuple #[x, .bool true]) w := ta_yes (E := 244) (by kernel_rfl) x X w
theorem ta_yes_Function (x : Value) (X : TypeId) (w : World) : (Instr.typeAssert (.iface 69 x) X 69 true).run Tryz.prog w = .ok (.tuple #[x, .bool true]) w := ta_yes (E := 184) (by kernel_rfl) x X w
theorem ta_yes_Import (x : Value) (X : TypeId) (w : World) : (Instr.typeAssert (.iface 231 x) X 231 true).run Tryz.prog w = .ok (.tuple #[x, .bool true]) w := ta_yes (E := 261) (by kernel_rfl) x X w
theorem ta_yes_ImportStr (x : Value) (X : TypeId) (w : World) : (Instr.typeAssert (.iface 232 x) X 232 true).run Tryz.prog w = .ok (.tuple #[x, .bool true]) w := ta_yes (E := 263) (by kernel_rfl) x X w
theorem ta_yes_ImportBin (x : Value) (X : TypeId) (w : World) : (Instr.typeAssert (.iface 233 x) X 233 true).run Tryz.prog w = .ok (.tuple #[x, .bool true]) w := ta_yes (E := 262) (by kernel_rfl) x X w
theorem ta_yes_Index (x : Value) (X : TypeId) (w : World) : (Instr.typeAssert (.iface 148 x) X 148 true).run Tryz.prog w = .ok (.tuple #[x, .bool true]) w := ta_yes (E := 150) (by kernel_rfl) x X w
theorem ta_yes_InSuper (x : Value) (X : TypeId) (w : World) : (Instr.typeAssert (.iface 151 x) X 151 true).run Tryz.prog w = .ok (.tuple #[x, .bool true]) w := ta_yes (E := 153) (by kernel_rfl) x X w
theorem ta_yes_LiteralBoolean (x : Value) (X : TypeId) (w : World) : (Instr.typeAssert (.iface 234 x) X 234 true).run Tryz.prog w = .ok (.tuple #[x, .bool true]) w := ta_yes (E := 285) (by kernel_rfl) x X w
theorem ta_yes_LiteralNull (x : Value) (X : TypeId) (w : World) : (Instr.typeAssert (.iface 104 x) X 104 true).run Tryz.prog w = .ok (.tuple #[x, .bool true]) w := ta_yes (E := 106) (by kernel_rfl) x X w
theorem ta_yes_LiteralNumber (x : Value) (X : TypeId) (w : World) : (Instr.typeAssert (.iface 235 x) X 235 true).run Tryz.prog w = .ok (.tuple #[x, .bool true]) w := ta_yes (E := 287) (by kernel_rfl) x X w
theorem ta_yes_LiteralString (x : Value) (X : TypeId) (w : World) : (Instr.typeAssert (.iface 68 x) X 68 true).run Tryz.prog w = .ok (.tuple #[x, .bool true]) w := ta_yes (E := 101) (by kernel_rfl) x X w
theorem ta_yes_Local (x : Value) (X : TypeId) (w : World) : (Instr.typeAssert (.iface 236 x) X 236 true).run Tryz.prog w = .ok (.tuple #[x, .bool true]) w := ta_yes (E := 267) (by kernel_rfl) x X w
theorem ta_yes_Object (x : Value) (X : TypeId) (w : World) : (Instr.typeAssert (.iface 237 x) X 237 true).run Tryz.prog w = .ok (.tuple #[x, .bool true]) w := ta_yes (E := 272) (by kernel_rfl) x X w
theorem ta_yes_ObjectComp (x : Value) (X : TypeId) (w : World) : (Instr.typeAssert (.iface 33 x) X 33 true).run Tryz.prog w = .ok (.tuple #[x, .bool true]) w := ta_yes (E := 63) (by kernel_rfl) x X w
theorem ta_yes_Parens (x : Value) (X : TypeId) (w : World) : (Instr.typeAssert (.iface 238 x) X 238 true).run Tryz.prog w = .ok (.tuple #[x, .bool true]) w := ta_yes (E := 274) (by kernel_rfl) x X w
theorem ta_yes_Self (x : Value) (X : TypeId) (w : World) : (Instr.typeAssert (.iface 239 x) X 239 true).run Tryz.prog w = .ok (.tuple #[x, .bool true]) w := ta_yes (E := 288) (by kernel_rfl) x X w
theorem ta_yes_Slice (x : Value) (X : TypeId) (w : World) : (Instr.typeAssert (.iface 154 x) X 154 true).run Tryz.prog w = .ok (.tuple #[x, .bool true]) w := ta_yes (E := 156) (by kernel_rfl) x X w
theorem ta_yes_SuperIndex (x : Value) (X : TypeId) (w : World) : (Instr.typeAssert (.iface 240 x) X 240 true).run Tryz.prog w = .ok (.tuple #[x, .bool true]) w := ta_yes (E := 276) (by kernel_rfl) x X w
theorem ta_yes_Unary (x : Value) (X : TypeId) (w : World) : (Instr.typeAssert (.iface 241 x) X 241 true).run Tryz.prog w = .ok (.tuple #[x, .bool true]) w := ta_yes (E := 279) (by kernel_rfl) x X w
theorem ta_yes_Var (x : Value) (X : TypeId) (w : World) : (Instr.typeAssert (.iface 242 x) X 242 true).run Tryz.prog w = .ok (.tuple #[x, .bool true]) w := ta_yes (E := 290) (by kernel_rfl) x X w

/-- What a cell of a block that is known whole holds. -/
theorem cell_of_block {w : World} {b : Nat} {cs : Array Value} {t : TypeId} (h : w.heap[b]? = some (.cells cs t (0, 0))) (o : Nat) : w.cell? ⟨b, o, none⟩ = cs[o]? := by
  unfold World.cell?
  dsimp only
  rw [h]
  rfl
theorem frozen_of_block {w : World} {b : Nat} {cs : Array Value} {t : TypeId} (h : w.heap[b]? = some (.cells cs t (0, 0))) (o : Nat) : w.frozen? ⟨b, o, none⟩ = false := by
  unfold World.frozen?
  dsimp only
  rw [h]
  simp

set_option maxRecDepth 100000 in
theorem openFodder_base (w : World) (xb xo : Nat) :
    Calls Tryz.prog 63 #[.pointer (some ⟨xb, xo, none⟩)] w fun e w' => e = .returned (.pointer (some ⟨xb, xo, none⟩)) ∧ w = w' := by
  go_enter Tryz.func63, Tryz.ntmps63
  go_wp2_with fail
  go_ret
  exact ⟨rfl, rfl⟩

theorem openFodder_still (w : World) (xb xo : Nat) :
    Calls Tryz.prog 63 #[.pointer (some ⟨xb, xo, none⟩)] w fun e w' => e = .returned (.pointer (some ⟨xb, xo, none⟩)) ∧ w' = w :=
  (openFodder_base w xb xo).mono fun _ _ h => ⟨h.1, h.2.symm⟩

set_option maxRecDepth 100000 in
theorem passFodderElement (w : World) (a b c d : Value) :
    Calls Tryz.prog 85 #[a, b, c, d] w fun e w' => e = .returned (.tuple #[]) ∧ w = w' := by
  go_enter Tryz.func85, Tryz.ntmps85
  go_wp2_with fail
  go_end0
  exact ⟨rfl, rfl⟩

end Go.Proofs.YtgdipdbmllkckaaGreatFmt
