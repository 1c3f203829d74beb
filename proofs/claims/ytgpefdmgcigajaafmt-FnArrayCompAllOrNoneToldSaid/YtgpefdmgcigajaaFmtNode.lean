/- Words for nodes in memory: cells of blocks known whole, type switches, the callees that do nothing. -/
import Derived.Test.YtgpefdmgcigajaaFmtCom
import Derived.Handy
import Derived.StillTailTactics
import Derived.Deep.RegionWith
namespace Go.Proofs.YtgpefdmgcigajaaFmt
open Go.ChangeShapes Go.WideShapes Go.ChangeAt Go.RowKit

/-- To write into a cell what it holds changes nothing. -/
theorem setCell_self {w : World} {p : Addr} {v : Value} (h : w.cell? p = some v) : w.setCell p v = w := by
  have e : (w.setCell p v).heap = w.heap := by
    unfold World.setCell
    dsimp only
    apply Array.ext_getElem?
    intro k
    rw [Array.getElem?_modify]
    split
    · rename_i hk
      subst hk
      unfold World.cell? at h
      split at h
      · rename_i c t f hg
        split at h
        · cases h
        · rename_i hs
          rw [hg]
          simp only [Option.map_some, hs]
          congr 2
          apply Array.ext_getElem?
          intro j
          simp only [Bool.false_eq_true, if_false]
          rw [Array.getElem?_setIfInBounds]
          split
          · rename_i hj
            subst hj
            split
            · exact h.symm
            · rw [Array.getElem?_eq_none (by omega)] at h; cases h
          · rfl
      · cases h
    · rfl
  have : w.setCell p v = { w with heap := (w.setCell p v).heap } := rfl
  rw [this, e]

theorem Fod.low {w : World} {b b' : Nat} {v : Value} {l : List FE} (h : Fod w b v l) (hb : b' ≤ b) : Fod w b' v l := by
  refine ⟨h.1, ?_⟩
  rcases h.2 with h | ⟨g, cap, cur, e1, e2, e3⟩
  · exact Or.inl h
  · exact Or.inr ⟨g, cap, cur, e1, Nat.le_trans hb e2, e3⟩

theorem fod_nil (w : World) (base : Nat) : Fod w base (.slice none 0 0) [] := World.ownsRow_nil _ _ _ _

theorem Fod.isSlice {w : World} {base : Nat} {v : Value} {l : List FE} (h : Fod w base v l) : ∃ a n c, v = .slice a n c := by
  obtain ⟨a, c, h, _⟩ := h.slice
  exact ⟨_, _, _, h⟩

theorem ta_no {T E : TypeId} (hu : Tryf.prog.underlying T = some (.pointer E)) (hz : ∀ w, (zeroValue T).run Tryf.prog w = .ok (.pointer none) w) (D : TypeId) (x : Value) (X : TypeId) (w : World) (hne : D ≠ T) :
    (Instr.typeAssert (.iface D x) X T true).run Tryf.prog w = .ok (.tuple #[.pointer none, .bool false]) w := by
  have hur : (underlying T).run Tryf.prog w = .ok (.pointer E) w := by
    have hprog : program.run Tryf.prog w = .ok Tryf.prog w := rfl
    unfold underlying
    simp [hprog, go_sem, hu]
  unfold Instr.typeAssert
  simp [go_sem, hur, hne, hz]
theorem ta_yes {T E : TypeId} (hu : Tryf.prog.underlying T = some (.pointer E)) (x : Value) (X : TypeId) (w : World) :
    (Instr.typeAssert (.iface T x) X T true).run Tryf.prog w = .ok (.tuple #[x, .bool true]) w := by
  have hur : (underlying T).run Tryf.prog w = .ok (.pointer E) w := by
    have hprog : program.run Tryf.prog w = .ok Tryf.prog w := rfl
    unfold underlying
    simp [hprog, go_sem, hu]
  unfold Instr.typeAssert
  simp [go_sem, hur]
theorem ta_no_Apply (D : TypeId) (x : Value) (X : TypeId) (w : World) (hne : D ≠ 146) : (Instr.typeAssert (.iface D x) X 146 true).run Tryf.prog w = .ok (.tuple #[.pointer none, .bool false]) w := ta_no (E := 152) (by kernel_rfl) (fun _ => by kernel_rfl) D x X w hne
theorem ta_no_ApplyBrace (D : TypeId) (x : Value) (X : TypeId) (w : World) (hne : D ≠ 153) : (Instr.typeAssert (.iface D x) X 153 true).run Tryf.prog w = .ok (.tuple #[.pointer none, .bool false]) w := ta_no (E := 155) (by kernel_rfl) (fun _ => by kernel_rfl) D x X w hne
theorem ta_no_Array (D : TypeId) (x : Value) (X : TypeId) (w : World) (hne : D ≠ 201) : (Instr.typeAssert (.iface D x) X 201 true).run Tryf.prog w = .ok (.tuple #[.pointer none, .bool false]) w := ta_no (E := 257) (by kernel_rfl) (fun _ => by kernel_rfl) D x X w hne
theorem ta_no_ArrayComp (D : TypeId) (x : Value) (X : TypeId) (w : World) (hne : D ≠ 44) : (Instr.typeAssert (.iface D x) X 44 true).run Tryf.prog w = .ok (.tuple #[.pointer none, .bool false]) w := ta_no (E := 65) (by kernel_rfl) (fun _ => by kernel_rfl) D x X w hne
theorem ta_no_Assert (D : TypeId) (x : Value) (X : TypeId) (w : World) (hne : D ≠ 203) : (Instr.typeAssert (.iface D x) X 203 true).run Tryf.prog w = .ok (.tuple #[.pointer none, .bool false]) w := ta_no (E := 259) (by kernel_rfl) (fun _ => by kernel_rfl) D x X w hne
theorem ta_no_Binary (D : TypeId) (x : Value) (X : TypeId) (w : World) (hne : D ≠ 156) : (Instr.typeAssert (.iface D x) X 156 true).run Tryf.prog w = .ok (.tuple #[.pointer none, .bool false]) w := ta_no (E := 159) (by kernel_rfl) (fun _ => by kernel_rfl) D x X w hne
theorem ta_no_Conditional (D : TypeId) (x : Value) (X : TypeId) (w : World) (hne : D ≠ 206) : (Instr.typeAssert (.iface D x) X 206 true).run Tryf.prog w = .ok (.tuple #[.pointer none, .bool false]) w := ta_no (E := 261) (by kernel_rfl) (fun _ => by kernel_rfl) D x X w hne
theorem ta_no_Dollar (D : TypeId) (x : Value) (X : TypeId) (w : World) (hne : D ≠ 208) : (Instr.typeAssert (.iface D x) X 208 true).run Tryf.prog w = .ok (.tuple #[.pointer none, .bool false]) w := ta_no (E := 289) (by kernel_rfl) (fun _ => by kernel_rfl) D x X w hne
theorem ta_no_Error (D : TypeId) (x : Value) (X : TypeId) (w : World) (hne : D ≠ 210) : (Instr.typeAssert (.iface D x) X 210 true).run Tryf.prog w = .ok (.tuple #[.pointer none, .bool false]) w := ta_no (E := 242) (by kernel_rfl) (fun _ => by kernel_rfl) D x X w hne
theorem ta_no_Function (D : TypeId) (x : Value) (X : TypeId) (w : World) (hne : D ≠ 107) : (Instr.typeAssert (.iface D x) X 107 true).run Tryf.prog w = .ok (.tuple #[.pointer none, .bool false]) w := ta_no (E := 245) (by kernel_rfl) (fun _ => by kernel_rfl) D x X w hne
theorem ta_no_Import (D : TypeId) (x : Value) (X : TypeId) (w : World) (hne : D ≠ 212) : (Instr.typeAssert (.iface D x) X 212 true).run Tryf.prog w = .ok (.tuple #[.pointer none, .bool false]) w := ta_no (E := 264) (by kernel_rfl) (fun _ => by kernel_rfl) D x X w hne
theorem ta_no_ImportStr (D : TypeId) (x : Value) (X : TypeId) (w : World) (hne : D ≠ 214) : (Instr.typeAssert (.iface D x) X 214 true).run Tryf.prog w = .ok (.tuple #[.pointer none, .bool false]) w := ta_no (E := 266) (by kernel_rfl) (fun _ => by kernel_rfl) D x X w hne
theorem ta_no_ImportBin (D : TypeId) (x : Value) (X : TypeId) (w : World) (hne : D ≠ 216) : (Instr.typeAssert (.iface D x) X 216 true).run Tryf.prog w = .ok (.tuple #[.pointer none, .bool false]) w := ta_no (E := 265) (by kernel_rfl) (fun _ => by kernel_rfl) D x X w hne
theorem ta_no_Index (D : TypeId) (x : Value) (X : TypeId) (w : World) (hne : D ≠ 160) : (Instr.typeAssert (.iface D x) X 160 true).run Tryf.prog w = .ok (.tuple #[.pointer none, .bool false]) w := ta_no (E := 162) (by kernel_rfl) (fun _ => by kernel_rfl) D x X w hne
theorem ta_no_InSuper (D : TypeId) (x : Value) (X : TypeId) (w : World) (hne : D ≠ 163) : (Instr.typeAssert (.iface D x) X 163 true).run Tryf.prog w = .ok (.tuple #[.pointer none, .bool false]) w := ta_no (E := 165) (by kernel_rfl) (fun _ => by kernel_rfl) D x X w hne
theorem ta_no_LiteralBoolean (D : TypeId) (x : Value) (X : TypeId) (w : World) (hne : D ≠ 220) : (Instr.typeAssert (.iface D x) X 220 true).run Tryf.prog w = .ok (.tuple #[.pointer none, .bool false]) w := ta_no (E := 291) (by kernel_rfl) (fun _ => by kernel_rfl) D x X w hne
theorem ta_no_LiteralNull (D : TypeId) (x : Value) (X : TypeId) (w : World) (hne : D ≠ 45) : (Instr.typeAssert (.iface D x) X 45 true).run Tryf.prog w = .ok (.tuple #[.pointer none, .bool false]) w := ta_no (E := 63) (by kernel_rfl) (fun _ => by kernel_rfl) D x X w hne
theorem ta_no_LiteralNumber (D : TypeId) (x : Value) (X : TypeId) (w : World) (hne : D ≠ 223) : (Instr.typeAssert (.iface D x) X 223 true).run Tryf.prog w = .ok (.tuple #[.pointer none, .bool false]) w := ta_no (E := 293) (by kernel_rfl) (fun _ => by kernel_rfl) D x X w hne
theorem ta_no_LiteralString (D : TypeId) (x : Value) (X : TypeId) (w : World) (hne : D ≠ 113) : (Instr.typeAssert (.iface D x) X 113 true).run Tryf.prog w = .ok (.tuple #[.pointer none, .bool false]) w := ta_no (E := 121) (by kernel_rfl) (fun _ => by kernel_rfl) D x X w hne
theorem ta_no_Local (D : TypeId) (x : Value) (X : TypeId) (w : World) (hne : D ≠ 226) : (Instr.typeAssert (.iface D x) X 226 true).run Tryf.prog w = .ok (.tuple #[.pointer none, .bool false]) w := ta_no (E := 270) (by kernel_rfl) (fun _ => by kernel_rfl) D x X w hne
theorem ta_no_Object (D : TypeId) (x : Value) (X : TypeId) (w : World) (hne : D ≠ 228) : (Instr.typeAssert (.iface D x) X 228 true).run Tryf.prog w = .ok (.tuple #[.pointer none, .bool false]) w := ta_no (E := 275) (by kernel_rfl) (fun _ => by kernel_rfl) D x X w hne
theorem ta_no_ObjectComp (D : TypeId) (x : Value) (X : TypeId) (w : World) (hne : D ≠ 74) : (Instr.typeAssert (.iface D x) X 74 true).run Tryf.prog w = .ok (.tuple #[.pointer none, .bool false]) w := ta_no (E := 82) (by kernel_rfl) (fun _ => by kernel_rfl) D x X w hne
theorem ta_no_Parens (D : TypeId) (x : Value) (X : TypeId) (w : World) (hne : D ≠ 230) : (Instr.typeAssert (.iface D x) X 230 true).run Tryf.prog w = .ok (.tuple #[.pointer none, .bool false]) w := ta_no (E := 280) (by kernel_rfl) (fun _ => by kernel_rfl) D x X w hne
theorem ta_no_Self (D : TypeId) (x : Value) (X : TypeId) (w : World) (hne : D ≠ 232) : (Instr.typeAssert (.iface D x) X 232 true).run Tryf.prog w = .ok (.tuple #[.pointer none, .bool false]) w := ta_no (E := 294) (by kernel_rfl) (fun _ => by kernel_rfl) D x X w hne
theorem ta_no_Slice (D : TypeId) (x : Value) (X : TypeId) (w : World) (hne : D ≠ 166) : (Instr.typeAssert (.iface D x) X 166 true).run Tryf.prog w = .ok (.tuple #[.pointer none, .bool false]) w := ta_no (E := 168) (by kernel_rfl) (fun _ => by kernel_rfl) D x X w hne
theorem ta_no_SuperIndex (D : TypeId) (x : Value) (X : TypeId) (w : World) (hne : D ≠ 235) : (Instr.typeAssert (.iface D x) X 235 true).run Tryf.prog w = .ok (.tuple #[.pointer none, .bool false]) w := ta_no (E := 282) (by kernel_rfl) (fun _ => by kernel_rfl) D x X w hne
theorem ta_no_Unary (D : TypeId) (x : Value) (X : TypeId) (w : World) (hne : D ≠ 237) : (Instr.typeAssert (.iface D x) X 237 true).run Tryf.prog w = .ok (.tuple #[.pointer none, .bool false]) w := ta_no (E := 285) (by kernel_rfl) (fun _ => by kernel_rfl) D x X w hne
theorem ta_no_Var (D : TypeId) (x : Value) (X : TypeId) (w : World) (hne : D ≠ 239) : (Instr.typeAssert (.iface D x) X 239 true).run Tryf.prog w = .ok (.tuple #[.pointer none, .bool false]) w := ta_no (E := 296) (by kernel_rfl) (fun _ => by kernel_rfl) D x X w hne
theorem ta_yes_Apply (x : Value) (X : TypeId) (w : World) : (Instr.typeAssert (.iface 146 x) X 146 true).run Tryf.prog w = .ok (.tuple #[x, .bool true]) w := ta_yes (E := 152) (by kernel_rfl) x X w
theorem ta_yes_ApplyBrace (x : Value) (X : TypeId) (w : World) : (Instr.typeAssert (.iface 153 x) X 153 true).run Tryf.prog w = .ok (.tuple #[x, .bool true]) w := ta_yes (E := 155) (by kernel_rfl) x X w
theorem ta_yes_Array (x : Value) (X : TypeId) (w : World) : (Instr.typeAssert (.iface 201 x) X 201 true).run Tryf.prog w = .ok (.tuple #[x, .bool true]) w := ta_yes (E := 257) (by kernel_rfl) x X w
theorem ta_yes_ArrayComp (x : Value) (X : TypeId) (w : World) : (Instr.typeAssert (.iface 44 x) X 44 true).run Tryf.prog w = .ok (.tuple #[x, .bool true]) w := ta_yes (E := 65) (by kernel_rfl) x X w
theorem ta_yes_Assert (x : Value) (X : TypeId) (w : World) : (Instr.typeAssert (.iface 203 x) X 203 true).run Tryf.prog w = .ok (.tuple #[x, .bool true]) w := ta_yes (E := 259) (by kernel_rfl) x X w
theorem ta_yes_Binary (x : Value) (X : TypeId) (w : World) : (Instr.typeAssert (.iface 156 x) X 156 true).run Tryf.prog w = .ok (.tuple #[x, .bool true]) w := ta_yes (E := 159) (by kernel_rfl) x X w
theorem ta_yes_Conditional (x : Value) (X : TypeId) (w : World) : (Instr.typeAssert (.iface 206 x) X 206 true).run Tryf.prog w = .ok (.tuple #[x, .bool true]) w := ta_yes (E := 261) (by kernel_rfl) x X w
theorem ta_yes_Dollar (x : Value) (X : TypeId) (w : World) : (Instr.typeAssert (.iface 208 x) X 208 true).run Tryf.prog w = .ok (.tuple #[x, .bool true]) w := ta_yes (E := 289) (by kernel_rfl) x X w
theorem ta_yes_Error (x : Value) (X : TypeId) (w : World) : (Instr.typeAssert (.iface 210 x) X 210 true).run Tryf.prog w = .ok (.tuple #[x, .bool true]) w := ta_yes (E := 242) (by kernel_rfl) x X w
theorem ta_yes_Function (x : Value) (X : TypeId) (w : World) : (Instr.typeAssert (.iface 107 x) X 107 true).run Tryf.prog w = .ok (.tuple #[x, .bool true]) w := ta_yes (E := 245) (by kernel_rfl) x X w
theorem ta_yes_Import (x : Value) (X : TypeId) (w : World) : (Instr.typeAssert (.iface 212 x) X 212 true).run Tryf.prog w = .ok (.tuple #[x, .bool true]) w := ta_yes (E := 264) (by kernel_rfl) x X w
theorem ta_yes_ImportStr (x : Value) (X : TypeId) (w : World) : (Instr.typeAssert (.iface 214 x) X 214 true).run Tryf.prog w = .ok (.tuple #[x, .bool true]) w := ta_yes (E := 266) (by kernel_rfl) x X w
theorem ta_yes_ImportBin (x : Value) (X : TypeId) (w : World) : (Instr.typeAssert (.iface 216 x) X 216 true).run Tryf.prog w = .ok (.tuple #[x, .bool true]) w := ta_yes (E := 265) (by kernel_rfl) x X w
theorem ta_yes_Index (x : Value) (X : TypeId) (w : World) : (Instr.typeAssert (.iface 160 x) X 160 true).run Tryf.prog w = .ok (.tuple #[x, .bool true]) w := ta_yes (E := 162) (by kernel_rfl) x X w
theorem ta_yes_InSuper (x : Value) (X : TypeId) (w : World) : (Instr.typeAssert (.iface 163 x) X 163 true).run Tryf.prog w = .ok (.tuple #[x, .bool true]) w := ta_yes (E := 165) (by kernel_rfl) x X w
theorem ta_yes_LiteralBoolean (x : Value) (X : TypeId) (w : World) : (Instr.typeAssert (.iface 220 x) X 220 true).run Tryf.prog w = .ok (.tuple #[x, .bool true]) w := ta_yes (E := 291) (by kernel_rfl) x X w
theorem ta_yes_LiteralNull (x : Value) (X : TypeId) (w : World) : (Instr.typeAssert (.iface 45 x) X 45 true).run Tryf.prog w = .ok (.tuple #[x, .bool true]) w := ta_yes (E := 63) (by kernel_rfl) x X w
theorem ta_yes_LiteralNumber (x : Value) (X : TypeId) (w : World) : (Instr.typeAssert (.iface 223 x) X 223 true).run Tryf.prog w = .ok (.tuple #[x, .bool true]) w := ta_yes (E := 293) (by kernel_rfl) x X w
theorem ta_yes_LiteralString (x : Value) (X : TypeId) (w : World) : (Instr.typeAssert (.iface 113 x) X 113 true).run Tryf.prog w = .ok (.tuple #[x, .bool true]) w := ta_yes (E := 121) (by kernel_rfl) x X w
theorem ta_yes_Local (x : Value) (X : TypeId) (w : World) : (Instr.typeAssert (.iface 226 x) X 226 true).run Tryf.prog w = .ok (.tuple #[x, .bool true]) w := ta_yes (E := 270) (by kernel_rfl) x X w
theorem ta_yes_Object (x : Value) (X : TypeId) (w : World) : (Instr.typeAssert (.iface 228 x) X 228 true).run Tryf.prog w = .ok (.tuple #[x, .bool true]) w := ta_yes (E := 275) (by kernel_rfl) x X w
theorem ta_yes_ObjectComp (x : Value) (X : TypeId) (w : World) : (Instr.typeAssert (.iface 74 x) X 74 true).run Tryf.prog w = .ok (.tuple #[x, .bool true]) w := ta_yes (E := 82) (by kernel_rfl) x X w
theorem ta_yes_Parens (x : Value) (X : TypeId) (w : World) : (Instr.typeAssert (.iface 230 x) X 230 true).run Tryf.prog w = .ok (.tuple #[x, .bool true]) w := ta_yes (E := 280) (by kernel_rfl) x X w
theorem ta_yes_Self (x : Value) (X : TypeId) (w : World) : (Instr.typeAssert (.iface 232 x) X 232 true).run Tryf.prog w = .ok (.tuple #[x, .bool true]) w := ta_yes (E := 294) (by kernel_rfl) x X w
theorem ta_yes_Slice (x : Value) (X : TypeId) (w : World) : (Instr.typeAssert (.iface 166 x) X 166 true).run Tryf.prog w = .ok (.tuple #[x, .bool true]) w := ta_yes (E := 168) (by kernel_rfl) x X w
theorem ta_yes_SuperIndex (x : Value) (X : TypeId) (w : World) : (Instr.typeAssert (.iface 235 x) X 235 true).run Tryf.prog w = .ok (.tuple #[x, .bool true]) w := ta_yes (E := 282) (by kernel_rfl) x X w
theorem ta_yes_Unary (x : Value) (X : TypeId) (w : World) : (Instr.typeAssert (.iface 237 x) X 237 true).run Tryf.prog w = .ok (.tuple #[x, .bool true]) w := ta_yes (E := 285) (by kernel_rfl) x X w
theorem ta_yes_Var (x : Value) (X : TypeId) (w : World) : (Instr.typeAssert (.iface 239 x) X 239 true).run Tryf.prog w = .ok (.tuple #[x, .bool true]) w := ta_yes (E := 296) (by kernel_rfl) x X w

/-- What a cell of a block that is known whole holds. -/
theorem cell_of_block {w : World} {b : Nat} {cs : Array Value} {t : TypeId} (h : w.heap[b]? = some (.cells cs t (0, 0))) (o : Nat) : w.cell? ⟨b, o, none⟩ = cs[o]? := by
  unfold World.cell?
  dsimp only
  rw [h]
  rfl
theorem frozen_of_block {w : World} {b : Nat} {cs : Array Value} {t : TypeId} (h : w.heap[b]? = some (.cells cs t (0, 0))) (o : Nat) : w.frozen? ⟨b, o, none⟩ = false := by
  unfold World.frozen?
  dsimp only
  rw [h]
  simp

set_option maxRecDepth 100000 in
theorem openFodder_base (w : World) (xb xo : Nat) :
    Calls Tryf.prog 88 #[.pointer (some ⟨xb, xo, none⟩)] w fun e w' => e = .returned (.pointer (some ⟨xb, xo, none⟩)) ∧ w = w' := by
  go_enter Tryf.func88, Tryf.ntmps88
  go_wp2_with fail
  go_ret
  exact ⟨rfl, rfl⟩

theorem openFodder_still (w : World) (xb xo : Nat) :
    Calls Tryf.prog 88 #[.pointer (some ⟨xb, xo, none⟩)] w fun e w' => e = .returned (.pointer (some ⟨xb, xo, none⟩)) ∧ w' = w :=
  (openFodder_base w xb xo).mono fun _ _ h => ⟨h.1, h.2.symm⟩

set_option maxRecDepth 100000 in
theorem passFodderElement (w : World) (a b c d : Value) :
    Calls Tryf.prog 108 #[a, b, c, d] w fun e w' => e = .returned (.tuple #[]) ∧ w = w' := by
  go_enter Tryf.func108, Tryf.ntmps108
  go_wp2_with fail
  go_end0
  exact ⟨rfl, rfl⟩

end Go.Proofs.YtgpefdmgcigajaaFmt
