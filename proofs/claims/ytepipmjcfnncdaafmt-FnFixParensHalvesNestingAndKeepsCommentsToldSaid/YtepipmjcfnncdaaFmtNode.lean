/- Words for nodes in memory: cells of blocks known whole, type switches, the callees that do nothing. -/
import Derived.Test.YtepipmjcfnncdaaFmtCom
import Derived.Handy
import Derived.StillTailTactics
import Derived.Deep.RegionWith
namespace Go.Proofs.YtepipmjcfnncdaaFmt
open Go.ChangeShapes Go.WideShapes Go.ChangeAt Go.RowKit

/-- To write into a cell what it holds changes nothing. -/
theorem setCell_self {w : World} {p : Addr} {v : Value} (h : w.cell? p = some v) : w.setCell p v = w := by
  have e : (w.setCell p v).heap = w.heap := by
    unfold World.setCell
    dsimp only
    apply Array.ext_getElem?
    intro k
    rw [Array.getElem?_modify]
    split
    · rename_i hk
      subst hk
      unfold World.cell? at h
      split at h
      · rename_i c t f hg
        split at h
        · cases h
        · rename_i hs
          rw [hg]
          simp only [Option.map_some, hs]
          congr 2
          apply Array.ext_getElem?
          intro j
          simp only [Bool.false_eq_true, if_false]
          rw [Array.getElem?_setIfInBounds]
          split
          · rename_i hj
            subst hj
            split
            · exact h.symm
            · rw [Array.getElem?_eq_none (by omega)] at h; cases h
          · rfl
      · cases h
    · rfl
  have : w.setCell p v = { w with heap := (w.setCell p v).heap } := rfl
  rw [this, e]

theorem Fod.low {w : World} {b b' : Nat} {v : Value} {l : List FE} (h : Fod w b v l) (hb : b' ≤ b) : Fod w b' v l := by
  refine ⟨h.1, ?_⟩
  rcases h.2 with h | ⟨g, cap, cur, e1, e2, e3⟩
  · exact Or.inl h
  · exact Or.inr ⟨g, cap, cur, e1, Nat.le_trans hb e2, e3⟩

theorem fod_nil (w : World) (base : Nat) : Fod w base (.slice none 0 0) [] := World.ownsRow_nil _ _ _ _

theorem Fod.isSlice {w : World} {base : Nat} {v : Value} {l : List FE} (h : Fod w base v l) : ∃ a n c, v = .slice a n c := by
  obtain ⟨a, c, h, _⟩ := h.slice
  exact ⟨_, _, _, h⟩

theorem ta_no {T E : TypeId} (hu : Tryf.prog.underlying T = some (.pointer E)) (hz : ∀ w, (zeroValue T).run Tryf.prog w = .ok (.pointer none) w) (D : TypeId) (x : Value) (X : TypeId) (w : World) (hne : D ≠ T) :
    (Instr.typeAssert (.iface D x) X T true).run Tryf.prog w = .ok (.tuple #[.pointer none, .bool false]) w := by
  have hur : (underlying T).run Tryf.prog w = .ok (.pointer E) w := by
    have hprog : program.run Tryf.prog w = .ok Tryf.prog w := rfl
    unfold underlying
    simp [hprog, go_sem, hu]
  unfold Instr.typeAssert
  simp [go_sem, hur, hne, hz]
theorem ta_yes {T E : TypeId} (hu : Tryf.prog.underlying T = some (.pointer E)) (x : Value) (X : TypeId) (w : World) :
    (Instr.typeAssert (.iface T x) X T true).run Tryf.prog w = .ok (.tuple #[x, .bool true]) w := by
  have hur : (underlying T).run Tryf.prog w = .ok (.pointer E) w := by
    have hprog : program.run Tryf.prog w = .ok Tryf.prog w := rfl
    unfold underlying
    simp [hprog, go_sem, hu]
  unfold Instr.typeAssert
  simp [go_sem, hur]
theorem ta_no_Apply (D : TypeId) (x : Value) (X : TypeId) (w : World) (hne : D ≠ 195) : (Instr.typeAssert (.iface D x) X 195 true).run Tryf.prog w = .ok (.tuple #[.pointer none, .bool false]) w := ta_no (E := 261) (by kernel_rfl) (fun _ => by kernel_rfl) D x X w hne
theorem ta_no_ApplyBrace (D : TypeId) (x : Value) (X : TypeId) (w : World) (hne : D ≠ 83) : (Instr.typeAssert (.iface D x) X 83 true).run Tryf.prog w = .ok (.tuple #[.pointer none, .bool false]) w := ta_no (E := 86) (by kernel_rfl) (fun _ => by kernel_rfl) D x X w hne
theorem ta_no_Array (D : TypeId) (x : Value) (X : TypeId) (w : World) (hne : D ≠ 109) : (Instr.typeAssert (.iface D x) X 109 true).run Tryf.prog w = .ok (.tuple #[.pointer none, .bool false]) w := ta_no (E := 116) (by kernel_rfl) (fun _ => by kernel_rfl) D x X w hne
theorem ta_no_ArrayComp (D : TypeId) (x : Value) (X : TypeId) (w : World) (hne : D ≠ 198) : (Instr.typeAssert (.iface D x) X 198 true).run Tryf.prog w = .ok (.tuple #[.pointer none, .bool false]) w := ta_no (E := 300) (by kernel_rfl) (fun _ => by kernel_rfl) D x X w hne
theorem ta_no_Assert (D : TypeId) (x : Value) (X : TypeId) (w : World) (hne : D ≠ 200) : (Instr.typeAssert (.iface D x) X 200 true).run Tryf.prog w = .ok (.tuple #[.pointer none, .bool false]) w := ta_no (E := 303) (by kernel_rfl) (fun _ => by kernel_rfl) D x X w hne
theorem ta_no_Binary (D : TypeId) (x : Value) (X : TypeId) (w : World) (hne : D ≠ 67) : (Instr.typeAssert (.iface D x) X 67 true).run Tryf.prog w = .ok (.tuple #[.pointer none, .bool false]) w := ta_no (E := 70) (by kernel_rfl) (fun _ => by kernel_rfl) D x X w hne
theorem ta_no_Conditional (D : TypeId) (x : Value) (X : TypeId) (w : World) (hne : D ≠ 203) : (Instr.typeAssert (.iface D x) X 203 true).run Tryf.prog w = .ok (.tuple #[.pointer none, .bool false]) w := ta_no (E := 305) (by kernel_rfl) (fun _ => by kernel_rfl) D x X w hne
theorem ta_no_Dollar (D : TypeId) (x : Value) (X : TypeId) (w : World) (hne : D ≠ 164) : (Instr.typeAssert (.iface D x) X 164 true).run Tryf.prog w = .ok (.tuple #[.pointer none, .bool false]) w := ta_no (E := 165) (by kernel_rfl) (fun _ => by kernel_rfl) D x X w hne
theorem ta_no_Error (D : TypeId) (x : Value) (X : TypeId) (w : World) (hne : D ≠ 206) : (Instr.typeAssert (.iface D x) X 206 true).run Tryf.prog w = .ok (.tuple #[.pointer none, .bool false]) w := ta_no (E := 307) (by kernel_rfl) (fun _ => by kernel_rfl) D x X w hne
theorem ta_no_Function (D : TypeId) (x : Value) (X : TypeId) (w : World) (hne : D ≠ 98) : (Instr.typeAssert (.iface D x) X 98 true).run Tryf.prog w = .ok (.tuple #[.pointer none, .bool false]) w := ta_no (E := 239) (by kernel_rfl) (fun _ => by kernel_rfl) D x X w hne
theorem ta_no_Import (D : TypeId) (x : Value) (X : TypeId) (w : World) (hne : D ≠ 209) : (Instr.typeAssert (.iface D x) X 209 true).run Tryf.prog w = .ok (.tuple #[.pointer none, .bool false]) w := ta_no (E := 310) (by kernel_rfl) (fun _ => by kernel_rfl) D x X w hne
theorem ta_no_ImportStr (D : TypeId) (x : Value) (X : TypeId) (w : World) (hne : D ≠ 211) : (Instr.typeAssert (.iface D x) X 211 true).run Tryf.prog w = .ok (.tuple #[.pointer none, .bool false]) w := ta_no (E := 312) (by kernel_rfl) (fun _ => by kernel_rfl) D x X w hne
theorem ta_no_ImportBin (D : TypeId) (x : Value) (X : TypeId) (w : World) (hne : D ≠ 213) : (Instr.typeAssert (.iface D x) X 213 true).run Tryf.prog w = .ok (.tuple #[.pointer none, .bool false]) w := ta_no (E := 311) (by kernel_rfl) (fun _ => by kernel_rfl) D x X w hne
theorem ta_no_Index (D : TypeId) (x : Value) (X : TypeId) (w : World) (hne : D ≠ 24) : (Instr.typeAssert (.iface D x) X 24 true).run Tryf.prog w = .ok (.tuple #[.pointer none, .bool false]) w := ta_no (E := 47) (by kernel_rfl) (fun _ => by kernel_rfl) D x X w hne
theorem ta_no_InSuper (D : TypeId) (x : Value) (X : TypeId) (w : World) (hne : D ≠ 215) : (Instr.typeAssert (.iface D x) X 215 true).run Tryf.prog w = .ok (.tuple #[.pointer none, .bool false]) w := ta_no (E := 263) (by kernel_rfl) (fun _ => by kernel_rfl) D x X w hne
theorem ta_no_LiteralBoolean (D : TypeId) (x : Value) (X : TypeId) (w : World) (hne : D ≠ 217) : (Instr.typeAssert (.iface D x) X 217 true).run Tryf.prog w = .ok (.tuple #[.pointer none, .bool false]) w := ta_no (E := 334) (by kernel_rfl) (fun _ => by kernel_rfl) D x X w hne
theorem ta_no_LiteralNull (D : TypeId) (x : Value) (X : TypeId) (w : World) (hne : D ≠ 57) : (Instr.typeAssert (.iface D x) X 57 true).run Tryf.prog w = .ok (.tuple #[.pointer none, .bool false]) w := ta_no (E := 64) (by kernel_rfl) (fun _ => by kernel_rfl) D x X w hne
theorem ta_no_LiteralNumber (D : TypeId) (x : Value) (X : TypeId) (w : World) (hne : D ≠ 220) : (Instr.typeAssert (.iface D x) X 220 true).run Tryf.prog w = .ok (.tuple #[.pointer none, .bool false]) w := ta_no (E := 336) (by kernel_rfl) (fun _ => by kernel_rfl) D x X w hne
theorem ta_no_LiteralString (D : TypeId) (x : Value) (X : TypeId) (w : World) (hne : D ≠ 25) : (Instr.typeAssert (.iface D x) X 25 true).run Tryf.prog w = .ok (.tuple #[.pointer none, .bool false]) w := ta_no (E := 53) (by kernel_rfl) (fun _ => by kernel_rfl) D x X w hne
theorem ta_no_Local (D : TypeId) (x : Value) (X : TypeId) (w : World) (hne : D ≠ 93) : (Instr.typeAssert (.iface D x) X 93 true).run Tryf.prog w = .ok (.tuple #[.pointer none, .bool false]) w := ta_no (E := 104) (by kernel_rfl) (fun _ => by kernel_rfl) D x X w hne
theorem ta_no_Object (D : TypeId) (x : Value) (X : TypeId) (w : World) (hne : D ≠ 56) : (Instr.typeAssert (.iface D x) X 56 true).run Tryf.prog w = .ok (.tuple #[.pointer none, .bool false]) w := ta_no (E := 62) (by kernel_rfl) (fun _ => by kernel_rfl) D x X w hne
theorem ta_no_ObjectComp (D : TypeId) (x : Value) (X : TypeId) (w : World) (hne : D ≠ 223) : (Instr.typeAssert (.iface D x) X 223 true).run Tryf.prog w = .ok (.tuple #[.pointer none, .bool false]) w := ta_no (E := 314) (by kernel_rfl) (fun _ => by kernel_rfl) D x X w hne
theorem ta_no_Parens (D : TypeId) (x : Value) (X : TypeId) (w : World) (hne : D ≠ 121) : (Instr.typeAssert (.iface D x) X 121 true).run Tryf.prog w = .ok (.tuple #[.pointer none, .bool false]) w := ta_no (E := 129) (by kernel_rfl) (fun _ => by kernel_rfl) D x X w hne
theorem ta_no_Self (D : TypeId) (x : Value) (X : TypeId) (w : World) (hne : D ≠ 225) : (Instr.typeAssert (.iface D x) X 225 true).run Tryf.prog w = .ok (.tuple #[.pointer none, .bool false]) w := ta_no (E := 337) (by kernel_rfl) (fun _ => by kernel_rfl) D x X w hne
theorem ta_no_Slice (D : TypeId) (x : Value) (X : TypeId) (w : World) (hne : D ≠ 227) : (Instr.typeAssert (.iface D x) X 227 true).run Tryf.prog w = .ok (.tuple #[.pointer none, .bool false]) w := ta_no (E := 265) (by kernel_rfl) (fun _ => by kernel_rfl) D x X w hne
theorem ta_no_SuperIndex (D : TypeId) (x : Value) (X : TypeId) (w : World) (hne : D ≠ 229) : (Instr.typeAssert (.iface D x) X 229 true).run Tryf.prog w = .ok (.tuple #[.pointer none, .bool false]) w := ta_no (E := 319) (by kernel_rfl) (fun _ => by kernel_rfl) D x X w hne
theorem ta_no_Unary (D : TypeId) (x : Value) (X : TypeId) (w : World) (hne : D ≠ 231) : (Instr.typeAssert (.iface D x) X 231 true).run Tryf.prog w = .ok (.tuple #[.pointer none, .bool false]) w := ta_no (E := 322) (by kernel_rfl) (fun _ => by kernel_rfl) D x X w hne
theorem ta_no_Var (D : TypeId) (x : Value) (X : TypeId) (w : World) (hne : D ≠ 58) : (Instr.typeAssert (.iface D x) X 58 true).run Tryf.prog w = .ok (.tuple #[.pointer none, .bool false]) w := ta_no (E := 66) (by kernel_rfl) (fun _ => by kernel_rfl) D x X w hne
theorem ta_yes_Apply (x : Value) (X : TypeId) (w : World) : (Instr.typeAssert (.iface 195 x) X 195 true).run Tryf.prog w = .ok (.tuple #[x, .bool true]) w := ta_yes (E := 261) (by kernel_rfl) x X w
theorem ta_yes_ApplyBrace (x : Value) (X : TypeId) (w : World) : (Instr.typeAssert (.iface 83 x) X 83 true).run Tryf.prog w = .ok (.tuple #[x, .bool true]) w := ta_yes (E := 86) (by kernel_rfl) x X w
theorem ta_yes_Array (x : Value) (X : TypeId) (w : World) : (Instr.typeAssert (.iface 109 x) X 109 true).run Tryf.prog w = .ok (.tuple #[x, .bool true]) w := ta_yes (E := 116) (by kernel_rfl) x X w
theorem ta_yes_ArrayComp (x : Value) (X : TypeId) (w : World) : (Instr.typeAssert (.iface 198 x) X 198 true).run Tryf.prog w = .ok (.tuple #[x, .bool true]) w := ta_yes (E := 300) (by kernel_rfl) x X w
theorem ta_yes_Assert (x : Value) (X : TypeId) (w : World) : (Instr.typeAssert (.iface 200 x) X 200 true).run Tryf.prog w = .ok (.tuple #[x, .bool true]) w := ta_yes (E := 303) (by kernel_rfl) x X w
theorem ta_yes_Binary (x : Value) (X : TypeId) (w : World) : (Instr.typeAssert (.iface 67 x) X 67 true).run Tryf.prog w = .ok (.tuple #[x, .bool true]) w := ta_yes (E := 70) (by kernel_rfl) x X w
theorem ta_yes_Conditional (x : Value) (X : TypeId) (w : World) : (Instr.typeAssert (.iface 203 x) X 203 true).run Tryf.prog w = .ok (.tuple #[x, .bool true]) w := ta_yes (E := 305) (by kernel_rfl) x X w
theorem ta_yes_Dollar (x : Value) (X : TypeId) (w : World) : (Instr.typeAssert (.iface 164 x) X 164 true).run Tryf.prog w = .ok (.tuple #[x, .bool true]) w := ta_yes (E := 165) (by kernel_rfl) x X w
theorem ta_yes_Error (x : Value) (X : TypeId) (w : World) : (Instr.typeAssert (.iface 206 x) X 206 true).run Tryf.prog w = .ok (.tuple #[x, .bool true]) w := ta_yes (E := 307) (by kernel_rfl) x X w
theorem ta_yes_Function (x : Value) (X : TypeId) (w : World) : (Instr.typeAssert (.iface 98 x) X 98 true).run Tryf.prog w = .ok (.tuple #[x, .bool true]) w := ta_yes (E := 239) (by kernel_rfl) x X w
theorem ta_yes_Import (x : Value) (X : TypeId) (w : World) : (Instr.typeAssert (.iface 209 x) X 209 true).run Tryf.prog w = .ok (.tuple #[x, .bool true]) w := ta_yes (E := 310) (by kernel_rfl) x X w
theorem ta_yes_ImportStr (x : Value) (X : TypeId) (w : World) : (Instr.typeAssert (.iface 211 x) X 211 true).run Tryf.prog w = .ok (.tuple #[x, .bool true]) w := ta_yes (E := 312) (by kernel_rfl) x X w
theorem ta_yes_ImportBin (x : Value) (X : TypeId) (w : World) : (Instr.typeAssert (.iface 213 x) X 213 true).run Tryf.prog w = .ok (.tuple #[x, .bool true]) w := ta_yes (E := 311) (by kernel_rfl) x X w
theorem ta_yes_Index (x : Value) (X : TypeId) (w : World) : (Instr.typeAssert (.iface 24 x) X 24 true).run Tryf.prog w = .ok (.tuple #[x, .bool true]) w := ta_yes (E := 47) (by kernel_rfl) x X w
theorem ta_yes_InSuper (x : Value) (X : TypeId) (w : World) : (Instr.typeAssert (.iface 215 x) X 215 true).run Tryf.prog w = .ok (.tuple #[x, .bool true]) w := ta_yes (E := 263) (by kernel_rfl) x X w
theorem ta_yes_LiteralBoolean (x : Value) (X : TypeId) (w : World) : (Instr.typeAssert (.iface 217 x) X 217 true).run Tryf.prog w = .ok (.tuple #[x, .bool true]) w := ta_yes (E := 334) (by kernel_rfl) x X w
theorem ta_yes_LiteralNull (x : Value) (X : TypeId) (w : World) : (Instr.typeAssert (.iface 57 x) X 57 true).run Tryf.prog w = .ok (.tuple #[x, .bool true]) w := ta_yes (E := 64) (by kernel_rfl) x X w
theorem ta_yes_LiteralNumber (x : Value) (X : TypeId) (w : World) : (Instr.typeAssert (.iface 220 x) X 220 true).run Tryf.prog w = .ok (.tuple #[x, .bool true]) w := ta_yes (E := 336) (by kernel_rfl) x X w
theorem ta_yes_LiteralString (x : Value) (X : TypeId) (w : World) : (Instr.typeAssert (.iface 25 x) X 25 true).run Tryf.prog w = .ok (.tuple #[x, .bool true]) w := ta_yes (E := 53) (by kernel_rfl) x X w
theorem ta_yes_Local (x : Value) (X : TypeId) (w : World) : (Instr.typeAssert (.iface 93 x) X 93 true).run Tryf.prog w = .ok (.tuple #[x, .bool true]) w := ta_yes (E := 104) (by kernel_rfl) x X w
theorem ta_yes_Object (x : Value) (X : TypeId) (w : World) : (Instr.typeAssert (.iface 56 x) X 56 true).run Tryf.prog w = .ok (.tuple #[x, .bool true]) w := ta_yes (E := 62) (by kernel_rfl) x X w
theorem ta_yes_ObjectComp (x : Value) (X : TypeId) (w : World) : (Instr.typeAssert (.iface 223 x) X 223 true).run Tryf.prog w = .ok (.tuple #[x, .bool true]) w := ta_yes (E := 314) (by kernel_rfl) x X w
theorem ta_yes_Parens (x : Value) (X : TypeId) (w : World) : (Instr.typeAssert (.iface 121 x) X 121 true).run Tryf.prog w = .ok (.tuple #[x, .bool true]) w := ta_yes (E := 129) (by kernel_rfl) x X w
theorem ta_yes_Self (x : Value) (X : TypeId) (w : World) : (Instr.typeAssert (.iface 225 x) X 225 true).run Tryf.prog w = .ok (.tuple #[x, .bool true]) w := ta_yes (E := 337) (by kernel_rfl) x X w
theorem ta_yes_Slice (x : Value) (X : TypeId) (w : World) : (Instr.typeAssert (.iface 227 x) X 227 true).run Tryf.prog w = .ok (.tuple #[x, .bool true]) w := ta_yes (E := 265) (by kernel_rfl) x X w
theorem ta_yes_SuperIndex (x : Value) (X : TypeId) (w : World) : (Instr.typeAssert (.iface 229 x) X 229 true).run Tryf.prog w = .ok (.tuple #[x, .bool true]) w := ta_yes (E := 319) (by kernel_rfl) x X w
theorem ta_yes_Unary (x : Value) (X : TypeId) (w : World) : (Instr.typeAssert (.iface 231 x) X 231 true).run Tryf.prog w = .ok (.tuple #[x, .bool true]) w := ta_yes (E := 322) (by kernel_rfl) x X w
theorem ta_yes_Var (x : Value) (X : TypeId) (w : World) : (Instr.typeAssert (.iface 58 x) X 58 true).run Tryf.prog w = .ok (.tuple #[x, .bool true]) w := ta_yes (E := 66) (by kernel_rfl) x X w

/-- What a cell of a block that is known whole holds. -/
theorem cell_of_block {w : World} {b : Nat} {cs : Array Value} {t : TypeId} (h : w.heap[b]? = some (.cells cs t (0, 0))) (o : Nat) : w.cell? ⟨b, o, none⟩ = cs[o]? := by
  unfold World.cell?
  dsimp only
  rw [h]
  rfl
theorem frozen_of_block {w : World} {b : Nat} {cs : Array Value} {t : TypeId} (h : w.heap[b]? = some (.cells cs t (0, 0))) (o : Nat) : w.frozen? ⟨b, o, none⟩ = false := by
  unfold World.frozen?
  dsimp only
  rw [h]
  simp

set_option maxRecDepth 100000 in
theorem openFodder_base (w : World) (xb xo : Nat) :
    Calls Tryf.prog 125 #[.pointer (some ⟨xb, xo, none⟩)] w fun e w' => e = .returned (.pointer (some ⟨xb, xo, none⟩)) ∧ w = w' := by
  go_enter Tryf.func125, Tryf.ntmps125
  go_wp2_with fail
  go_ret
  exact ⟨rfl, rfl⟩

theorem openFodder_still (w : World) (xb xo : Nat) :
    Calls Tryf.prog 125 #[.pointer (some ⟨xb, xo, none⟩)] w fun e w' => e = .returned (.pointer (some ⟨xb, xo, none⟩)) ∧ w' = w :=
  (openFodder_base w xb xo).mono fun _ _ h => ⟨h.1, h.2.symm⟩

set_option maxRecDepth 100000 in
theorem passFodderElement (w : World) (a b c d : Value) :
    Calls Tryf.prog 162 #[a, b, c, d] w fun e w' => e = .returned (.tuple #[]) ∧ w = w' := by
  go_enter Tryf.func162, Tryf.ntmps162
  go_wp2_with fail
  go_end0
  exact ⟨rfl, rfl⟩

end Go.Proofs.YtepipmjcfnncdaaFmt
