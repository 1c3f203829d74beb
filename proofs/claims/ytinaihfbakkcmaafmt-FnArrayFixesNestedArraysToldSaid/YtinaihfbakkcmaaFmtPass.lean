/- The contracts of the pass's traversal over fodders and leaves: it changes nothing. -/
import Derived.Test.YtinaihfbakkcmaaFmtCom
import Derived.Handy
import Derived.StillTailTactics
import Derived.Deep.RegionWith
namespace Go.Proofs.YtinaihfbakkcmaaFmt
open Go.ChangeShapes Go.WideShapes Go.ChangeAt Go.RowKit

/-- To write into a cell what it holds changes nothing. -/
theorem setCell_self {w : World} {p : Addr} {v : Value} (h : w.cell? p = some v) : w.setCell p v = w := by
  have e : (w.setCell p v).heap = w.heap := by
    unfold World.setCell
    dsimp only
    apply Array.ext_getElem?
    intro k
    rw [Array.getElem?_modify]
    split
    · rename_i hk
      subst hk
      unfold World.cell? at h
      split at h
      · rename_i c t f hg
        split at h
        · cases h
        · rename_i hs
          rw [hg]
          simp only [Option.map_some, hs]
          congr 2
          apply Array.ext_getElem?
          intro j
          simp only [Bool.false_eq_true, if_false]
          rw [Array.getElem?_setIfInBounds]
          split
          · rename_i hj
            subst hj
            split
            · exact h.symm
            · rw [Array.getElem?_eq_none (by omega)] at h; cases h
          · rfl
      · cases h
    · rfl
  have : w.setCell p v = { w with heap := (w.setCell p v).heap } := rfl
  rw [this, e]

theorem Fod.low {w : World} {b b' : Nat} {v : Value} {l : List FE} (h : Fod w b v l) (hb : b' ≤ b) : Fod w b' v l := by
  refine ⟨h.1, ?_⟩
  rcases h.2 with h | ⟨g, cap, cur, e1, e2, e3⟩
  · exact Or.inl h
  · exact Or.inr ⟨g, cap, cur, e1, Nat.le_trans hb e2, e3⟩

theorem fod_nil (w : World) (base : Nat) : Fod w base (.slice none 0 0) [] := World.ownsRow_nil _ _ _ _

theorem Fod.isSlice {w : World} {base : Nat} {v : Value} {l : List FE} (h : Fod w base v l) : ∃ a n c, v = .slice a n c := by
  obtain ⟨a, c, h, _⟩ := h.slice
  exact ⟨_, _, _, h⟩

theorem ta_no {T E : TypeId} (hu : Tryf.prog.underlying T = some (.pointer E)) (hz : ∀ w, (zeroValue T).run Tryf.prog w = .ok (.pointer none) w) (D : TypeId) (x : Value) (X : TypeId) (w : World) (hne : D ≠ T) :
    (Instr.typeAssert (.iface D x) X T true).run Tryf.prog w = .ok (.tuple #[.pointer none, .bool false]) w := by
  have hur : (underlying T).run Tryf.prog w = .ok (.pointer E) w := by
    have hprog : program.run Tryf.prog w = .ok Tryf.prog w := rfl
    unfold underlying
    simp [hprog, go_sem, hu]
  unfold Instr.typeAssert
  simp [go_sem, hur, hne, hz]
theorem ta_yes {T E : TypeId} (hu : Tryf.prog.underlying T = some (.pointer E)) (x : Value) (X : TypeId) (w : World) :
    (Instr.typeAssert (.iface T x) X T true).run Tryf.prog w = .ok (.tuple #[x, .bool true]) w := by
  have hur : (underlying T).run Tryf.prog w = .ok (.pointer E) w := by
    have hprog : program.run Tryf.prog w = .ok Tryf.prog w := rfl
    unfold underlying
    simp [hprog, go_sem, hu]
  unfold Instr.typeAssert
  simp [go_sem, hur]
theorem ta_no_Apply (D : TypeId) (x : Value) (X : TypeId) (w : World) (hne : D ≠ 130) : (Instr.typeAssert (.iface D x) X 130 true).run Tryf.prog w = .ok (.tuple #[.pointer none, .bool false]) w := ta_no (E := 192) (by kernel_rfl) (fun _ => by kernel_rfl) D x X w hne
theorem ta_no_ApplyBrace (D : TypeId) (x : Value) (X : TypeId) (w : World) (hne : D ≠ 132) : (Instr.typeAssert (.iface D x) X 132 true).run Tryf.prog w = .ok (.tuple #[.pointer none, .bool false]) w := ta_no (E := 195) (by kernel_rfl) (fun _ => by kernel_rfl) D x X w hne
theorem ta_no_Array (D : TypeId) (x : Value) (X : TypeId) (w : World) (hne : D ≠ 53) : (Instr.typeAssert (.iface D x) X 53 true).run Tryf.prog w = .ok (.tuple #[.pointer none, .bool false]) w := ta_no (E := 55) (by kernel_rfl) (fun _ => by kernel_rfl) D x X w hne
theorem ta_no_ArrayComp (D : TypeId) (x : Value) (X : TypeId) (w : World) (hne : D ≠ 65) : (Instr.typeAssert (.iface D x) X 65 true).run Tryf.prog w = .ok (.tuple #[.pointer none, .bool false]) w := ta_no (E := 72) (by kernel_rfl) (fun _ => by kernel_rfl) D x X w hne
theorem ta_no_Assert (D : TypeId) (x : Value) (X : TypeId) (w : World) (hne : D ≠ 134) : (Instr.typeAssert (.iface D x) X 134 true).run Tryf.prog w = .ok (.tuple #[.pointer none, .bool false]) w := ta_no (E := 201) (by kernel_rfl) (fun _ => by kernel_rfl) D x X w hne
theorem ta_no_Binary (D : TypeId) (x : Value) (X : TypeId) (w : World) (hne : D ≠ 136) : (Instr.typeAssert (.iface D x) X 136 true).run Tryf.prog w = .ok (.tuple #[.pointer none, .bool false]) w := ta_no (E := 204) (by kernel_rfl) (fun _ => by kernel_rfl) D x X w hne
theorem ta_no_Conditional (D : TypeId) (x : Value) (X : TypeId) (w : World) (hne : D ≠ 138) : (Instr.typeAssert (.iface D x) X 138 true).run Tryf.prog w = .ok (.tuple #[.pointer none, .bool false]) w := ta_no (E := 206) (by kernel_rfl) (fun _ => by kernel_rfl) D x X w hne
theorem ta_no_Dollar (D : TypeId) (x : Value) (X : TypeId) (w : World) (hne : D ≠ 140) : (Instr.typeAssert (.iface D x) X 140 true).run Tryf.prog w = .ok (.tuple #[.pointer none, .bool false]) w := ta_no (E := 257) (by kernel_rfl) (fun _ => by kernel_rfl) D x X w hne
theorem ta_no_Error (D : TypeId) (x : Value) (X : TypeId) (w : World) (hne : D ≠ 142) : (Instr.typeAssert (.iface D x) X 142 true).run Tryf.prog w = .ok (.tuple #[.pointer none, .bool false]) w := ta_no (E := 182) (by kernel_rfl) (fun _ => by kernel_rfl) D x X w hne
theorem ta_no_Function (D : TypeId) (x : Value) (X : TypeId) (w : World) (hne : D ≠ 143) : (Instr.typeAssert (.iface D x) X 143 true).run Tryf.prog w = .ok (.tuple #[.pointer none, .bool false]) w := ta_no (E := 209) (by kernel_rfl) (fun _ => by kernel_rfl) D x X w hne
theorem ta_no_Import (D : TypeId) (x : Value) (X : TypeId) (w : World) (hne : D ≠ 145) : (Instr.typeAssert (.iface D x) X 145 true).run Tryf.prog w = .ok (.tuple #[.pointer none, .bool false]) w := ta_no (E := 215) (by kernel_rfl) (fun _ => by kernel_rfl) D x X w hne
theorem ta_no_ImportStr (D : TypeId) (x : Value) (X : TypeId) (w : World) (hne : D ≠ 147) : (Instr.typeAssert (.iface D x) X 147 true).run Tryf.prog w = .ok (.tuple #[.pointer none, .bool false]) w := ta_no (E := 217) (by kernel_rfl) (fun _ => by kernel_rfl) D x X w hne
theorem ta_no_ImportBin (D : TypeId) (x : Value) (X : TypeId) (w : World) (hne : D ≠ 149) : (Instr.typeAssert (.iface D x) X 149 true).run Tryf.prog w = .ok (.tuple #[.pointer none, .bool false]) w := ta_no (E := 216) (by kernel_rfl) (fun _ => by kernel_rfl) D x X w hne
theorem ta_no_Index (D : TypeId) (x : Value) (X : TypeId) (w : World) (hne : D ≠ 151) : (Instr.typeAssert (.iface D x) X 151 true).run Tryf.prog w = .ok (.tuple #[.pointer none, .bool false]) w := ta_no (E := 222) (by kernel_rfl) (fun _ => by kernel_rfl) D x X w hne
theorem ta_no_InSuper (D : TypeId) (x : Value) (X : TypeId) (w : World) (hne : D ≠ 153) : (Instr.typeAssert (.iface D x) X 153 true).run Tryf.prog w = .ok (.tuple #[.pointer none, .bool false]) w := ta_no (E := 219) (by kernel_rfl) (fun _ => by kernel_rfl) D x X w hne
theorem ta_no_LiteralBoolean (D : TypeId) (x : Value) (X : TypeId) (w : World) (hne : D ≠ 155) : (Instr.typeAssert (.iface D x) X 155 true).run Tryf.prog w = .ok (.tuple #[.pointer none, .bool false]) w := ta_no (E := 259) (by kernel_rfl) (fun _ => by kernel_rfl) D x X w hne
theorem ta_no_LiteralNull (D : TypeId) (x : Value) (X : TypeId) (w : World) (hne : D ≠ 27) : (Instr.typeAssert (.iface D x) X 27 true).run Tryf.prog w = .ok (.tuple #[.pointer none, .bool false]) w := ta_no (E := 42) (by kernel_rfl) (fun _ => by kernel_rfl) D x X w hne
theorem ta_no_LiteralNumber (D : TypeId) (x : Value) (X : TypeId) (w : World) (hne : D ≠ 158) : (Instr.typeAssert (.iface D x) X 158 true).run Tryf.prog w = .ok (.tuple #[.pointer none, .bool false]) w := ta_no (E := 261) (by kernel_rfl) (fun _ => by kernel_rfl) D x X w hne
theorem ta_no_LiteralString (D : TypeId) (x : Value) (X : TypeId) (w : World) (hne : D ≠ 160) : (Instr.typeAssert (.iface D x) X 160 true).run Tryf.prog w = .ok (.tuple #[.pointer none, .bool false]) w := ta_no (E := 213) (by kernel_rfl) (fun _ => by kernel_rfl) D x X w hne
theorem ta_no_Local (D : TypeId) (x : Value) (X : TypeId) (w : World) (hne : D ≠ 162) : (Instr.typeAssert (.iface D x) X 162 true).run Tryf.prog w = .ok (.tuple #[.pointer none, .bool false]) w := ta_no (E := 226) (by kernel_rfl) (fun _ => by kernel_rfl) D x X w hne
theorem ta_no_Object (D : TypeId) (x : Value) (X : TypeId) (w : World) (hne : D ≠ 164) : (Instr.typeAssert (.iface D x) X 164 true).run Tryf.prog w = .ok (.tuple #[.pointer none, .bool false]) w := ta_no (E := 234) (by kernel_rfl) (fun _ => by kernel_rfl) D x X w hne
theorem ta_no_ObjectComp (D : TypeId) (x : Value) (X : TypeId) (w : World) (hne : D ≠ 166) : (Instr.typeAssert (.iface D x) X 166 true).run Tryf.prog w = .ok (.tuple #[.pointer none, .bool false]) w := ta_no (E := 236) (by kernel_rfl) (fun _ => by kernel_rfl) D x X w hne
theorem ta_no_Parens (D : TypeId) (x : Value) (X : TypeId) (w : World) (hne : D ≠ 168) : (Instr.typeAssert (.iface D x) X 168 true).run Tryf.prog w = .ok (.tuple #[.pointer none, .bool false]) w := ta_no (E := 246) (by kernel_rfl) (fun _ => by kernel_rfl) D x X w hne
theorem ta_no_Self (D : TypeId) (x : Value) (X : TypeId) (w : World) (hne : D ≠ 170) : (Instr.typeAssert (.iface D x) X 170 true).run Tryf.prog w = .ok (.tuple #[.pointer none, .bool false]) w := ta_no (E := 262) (by kernel_rfl) (fun _ => by kernel_rfl) D x X w hne
theorem ta_no_Slice (D : TypeId) (x : Value) (X : TypeId) (w : World) (hne : D ≠ 172) : (Instr.typeAssert (.iface D x) X 172 true).run Tryf.prog w = .ok (.tuple #[.pointer none, .bool false]) w := ta_no (E := 248) (by kernel_rfl) (fun _ => by kernel_rfl) D x X w hne
theorem ta_no_SuperIndex (D : TypeId) (x : Value) (X : TypeId) (w : World) (hne : D ≠ 174) : (Instr.typeAssert (.iface D x) X 174 true).run Tryf.prog w = .ok (.tuple #[.pointer none, .bool false]) w := ta_no (E := 250) (by kernel_rfl) (fun _ => by kernel_rfl) D x X w hne
theorem ta_no_Unary (D : TypeId) (x : Value) (X : TypeId) (w : World) (hne : D ≠ 176) : (Instr.typeAssert (.iface D x) X 176 true).run Tryf.prog w = .ok (.tuple #[.pointer none, .bool false]) w := ta_no (E := 253) (by kernel_rfl) (fun _ => by kernel_rfl) D x X w hne
theorem ta_no_Var (D : TypeId) (x : Value) (X : TypeId) (w : World) (hne : D ≠ 178) : (Instr.typeAssert (.iface D x) X 178 true).run Tryf.prog w = .ok (.tuple #[.pointer none, .bool false]) w := ta_no (E := 264) (by kernel_rfl) (fun _ => by kernel_rfl) D x X w hne
theorem ta_yes_Apply (x : Value) (X : TypeId) (w : World) : (Instr.typeAssert (.iface 130 x) X 130 true).run Tryf.prog w = .ok (.tuple #[x, .bool true]) w := ta_yes (E := 192) (by kernel_rfl) x X w
theorem ta_yes_ApplyBrace (x : Value) (X : TypeId) (w : World) : (Instr.typeAssert (.iface 132 x) X 132 true).run Tryf.prog w = .ok (.tuple #[x, .bool true]) w := ta_yes (E := 195) (by kernel_rfl) x X w
theorem ta_yes_Array (x : Value) (X : TypeId) (w : World) : (Instr.typeAssert (.iface 53 x) X 53 true).run Tryf.prog w = .ok (.tuple #[x, .bool true]) w := ta_yes (E := 55) (by kernel_rfl) x X w
theorem ta_yes_ArrayComp (x : Value) (X : TypeId) (w : World) : (Instr.typeAssert (.iface 65 x) X 65 true).run Tryf.prog w = .ok (.tuple #[x, .bool true]) w := ta_yes (E := 72) (by kernel_rfl) x X w
theorem ta_yes_Assert (x : Value) (X : TypeId) (w : World) : (Instr.typeAssert (.iface 134 x) X 134 true).run Tryf.prog w = .ok (.tuple #[x, .bool true]) w := ta_yes (E := 201) (by kernel_rfl) x X w
theorem ta_yes_Binary (x : Value) (X : TypeId) (w : World) : (Instr.typeAssert (.iface 136 x) X 136 true).run Tryf.prog w = .ok (.tuple #[x, .bool true]) w := ta_yes (E := 204) (by kernel_rfl) x X w
theorem ta_yes_Conditional (x : Value) (X : TypeId) (w : World) : (Instr.typeAssert (.iface 138 x) X 138 true).run Tryf.prog w = .ok (.tuple #[x, .bool true]) w := ta_yes (E := 206) (by kernel_rfl) x X w
theorem ta_yes_Dollar (x : Value) (X : TypeId) (w : World) : (Instr.typeAssert (.iface 140 x) X 140 true).run Tryf.prog w = .ok (.tuple #[x, .bool true]) w := ta_yes (E := 257) (by kernel_rfl) x X w
theorem ta_yes_Error (x : Value) (X : TypeId) (w : World) : (Instr.typeAssert (.iface 142 x) X 142 true).run Tryf.prog w = .ok (.tuple #[x, .bool true]) w := ta_yes (E := 182) (by kernel_rfl) x X w
theorem ta_yes_Function (x : Value) (X : TypeId) (w : World) : (Instr.typeAssert (.iface 143 x) X 143 true).run Tryf.prog w = .ok (.tuple #[x, .bool true]) w := ta_yes (E := 209) (by kernel_rfl) x X w
theorem ta_yes_Import (x : Value) (X : TypeId) (w : World) : (Instr.typeAssert (.iface 145 x) X 145 true).run Tryf.prog w = .ok (.tuple #[x, .bool true]) w := ta_yes (E := 215) (by kernel_rfl) x X w
theorem ta_yes_ImportStr (x : Value) (X : TypeId) (w : World) : (Instr.typeAssert (.iface 147 x) X 147 true).run Tryf.prog w = .ok (.tuple #[x, .bool true]) w := ta_yes (E := 217) (by kernel_rfl) x X w
theorem ta_yes_ImportBin (x : Value) (X : TypeId) (w : World) : (Instr.typeAssert (.iface 149 x) X 149 true).run Tryf.prog w = .ok (.tuple #[x, .bool true]) w := ta_yes (E := 216) (by kernel_rfl) x X w
theorem ta_yes_Index (x : Value) (X : TypeId) (w : World) : (Instr.typeAssert (.iface 151 x) X 151 true).run Tryf.prog w = .ok (.tuple #[x, .bool true]) w := ta_yes (E := 222) (by kernel_rfl) x X w
theorem ta_yes_InSuper (x : Value) (X : TypeId) (w : World) : (Instr.typeAssert (.iface 153 x) X 153 true).run Tryf.prog w = .ok (.tuple #[x, .bool true]) w := ta_yes (E := 219) (by kernel_rfl) x X w
theorem ta_yes_LiteralBoolean (x : Value) (X : TypeId) (w : World) : (Instr.typeAssert (.iface 155 x) X 155 true).run Tryf.prog w = .ok (.tuple #[x, .bool true]) w := ta_yes (E := 259) (by kernel_rfl) x X w
theorem ta_yes_LiteralNull (x : Value) (X : TypeId) (w : World) : (Instr.typeAssert (.iface 27 x) X 27 true).run Tryf.prog w = .ok (.tuple #[x, .bool true]) w := ta_yes (E := 42) (by kernel_rfl) x X w
theorem ta_yes_LiteralNumber (x : Value) (X : TypeId) (w : World) : (Instr.typeAssert (.iface 158 x) X 158 true).run Tryf.prog w = .ok (.tuple #[x, .bool true]) w := ta_yes (E := 261) (by kernel_rfl) x X w
theorem ta_yes_LiteralString (x : Value) (X : TypeId) (w : World) : (Instr.typeAssert (.iface 160 x) X 160 true).run Tryf.prog w = .ok (.tuple #[x, .bool true]) w := ta_yes (E := 213) (by kernel_rfl) x X w
theorem ta_yes_Local (x : Value) (X : TypeId) (w : World) : (Instr.typeAssert (.iface 162 x) X 162 true).run Tryf.prog w = .ok (.tuple #[x, .bool true]) w := ta_yes (E := 226) (by kernel_rfl) x X w
theorem ta_yes_Object (x : Value) (X : TypeId) (w : World) : (Instr.typeAssert (.iface 164 x) X 164 true).run Tryf.prog w = .ok (.tuple #[x, .bool true]) w := ta_yes (E := 234) (by kernel_rfl) x X w
theorem ta_yes_ObjectComp (x : Value) (X : TypeId) (w : World) : (Instr.typeAssert (.iface 166 x) X 166 true).run Tryf.prog w = .ok (.tuple #[x, .bool true]) w := ta_yes (E := 236) (by kernel_rfl) x X w
theorem ta_yes_Parens (x : Value) (X : TypeId) (w : World) : (Instr.typeAssert (.iface 168 x) X 168 true).run Tryf.prog w = .ok (.tuple #[x, .bool true]) w := ta_yes (E := 246) (by kernel_rfl) x X w
theorem ta_yes_Self (x : Value) (X : TypeId) (w : World) : (Instr.typeAssert (.iface 170 x) X 170 true).run Tryf.prog w = .ok (.tuple #[x, .bool true]) w := ta_yes (E := 262) (by kernel_rfl) x X w
theorem ta_yes_Slice (x : Value) (X : TypeId) (w : World) : (Instr.typeAssert (.iface 172 x) X 172 true).run Tryf.prog w = .ok (.tuple #[x, .bool true]) w := ta_yes (E := 248) (by kernel_rfl) x X w
theorem ta_yes_SuperIndex (x : Value) (X : TypeId) (w : World) : (Instr.typeAssert (.iface 174 x) X 174 true).run Tryf.prog w = .ok (.tuple #[x, .bool true]) w := ta_yes (E := 250) (by kernel_rfl) x X w
theorem ta_yes_Unary (x : Value) (X : TypeId) (w : World) : (Instr.typeAssert (.iface 176 x) X 176 true).run Tryf.prog w = .ok (.tuple #[x, .bool true]) w := ta_yes (E := 253) (by kernel_rfl) x X w
theorem ta_yes_Var (x : Value) (X : TypeId) (w : World) : (Instr.typeAssert (.iface 178 x) X 178 true).run Tryf.prog w = .ok (.tuple #[x, .bool true]) w := ta_yes (E := 264) (by kernel_rfl) x X w

/-- What a cell of a block that is known whole holds. -/
theorem cell_of_block {w : World} {b : Nat} {cs : Array Value} {t : TypeId} (h : w.heap[b]? = some (.cells cs t (0, 0))) (o : Nat) : w.cell? ⟨b, o, none⟩ = cs[o]? := by
  unfold World.cell?
  dsimp only
  rw [h]
  rfl
theorem frozen_of_block {w : World} {b : Nat} {cs : Array Value} {t : TypeId} (h : w.heap[b]? = some (.cells cs t (0, 0))) (o : Nat) : w.frozen? ⟨b, o, none⟩ = false := by
  unfold World.frozen?
  dsimp only
  rw [h]
  simp

/-- At pb lies the pass itself: a struct without cells. -/
def IsPass (w : World) (pb : Nat) : Prop := w.heap[pb]? = some (.cells #[] 82 (0, 0))

theorem IsPass.kept {S : List Nat} {w w' : World} {pb : Nat} (h : IsPass w pb) (hk : Kept S w w') (hn : pb ∉ S) : IsPass w' pb := hk.heap h hn

set_option maxRecDepth 100000 in
theorem part_base (w : World) (pb : Nat) (h : IsPass w pb) : (partAt ⟨pb, 0, none⟩ 0 0).run Tryf.prog w = .ok ⟨pb, 0, none⟩ w := by
  have hc : Tryf.prog.cellsOf 82 = 0 := by kernel_rfl
  have hp : w.shape? pb = some (82, 0) := by unfold World.shape?; rw [h]; rfl
  have hbo : (byteOf ⟨pb, 0, none⟩).run Tryf.prog w = .ok 0 w := by
    have hprog : program.run Tryf.prog w = .ok Tryf.prog w := rfl
    unfold byteOf
    simp [noView, viewAt, hprog, hp, hc, go_sem]
  unfold partAt
  simp [go_sem, hbo]

/-- A method of the pass that it has from its base: the receiver is the pass itself. -/
theorem meth_base (w : World) (pb : Nat) (h : IsPass w pb) (name : String) (F : FuncId) (fuel : Nat)
    (hm : ((Tryf.prog.info? 78).bind fun i => (i.methods.find? (·.name == name)).map fun m => (m.path, m.func)) = some (#[⟨82, 0, true⟩], some (F, true)))
    (hf : ((Tryf.prog.underlying 82).bind fun d => match d with | .struct fs => (fs[0]?).map fun f => (f.type, f.offset, f.byteOffset) | _ => none) = some (80, 0, 0)) :
    (method (fuel + 1) 78 (.pointer (some ⟨pb, 0, none⟩)) name).run Tryf.prog w = .ok (F, .pointer (some ⟨pb, 0, none⟩)) w := by
  obtain ⟨i, hi, hm⟩ := Option.bind_eq_some_iff.1 hm
  obtain ⟨m, hfm, hm⟩ := Option.map_eq_some_iff.1 hm
  obtain ⟨d, hd, hf⟩ := Option.bind_eq_some_iff.1 hf
  cases d
  all_goals first | (simp at hf; done) | skip
  rename_i fs
  obtain ⟨f, hf0, hf1⟩ := Option.map_eq_some_iff.1 hf
  simp only [Prod.mk.injEq] at hm hf1
  have hpl := part_base w pb h
  have hti : (typeInfo 78).run Tryf.prog w = .ok i w := by
    have hprog : program.run Tryf.prog w = .ok Tryf.prog w := rfl
    unfold typeInfo
    simp [hprog, go_sem, hi]
  have hub : (underlying 80).run Tryf.prog w = .ok (.struct #[]) w := by kernel_rfl
  have hud : (underlying 82).run Tryf.prog w = .ok (.struct fs) w := by
    have hprog : program.run Tryf.prog w = .ok Tryf.prog w := rfl
    unfold underlying
    simp [hprog, go_sem, hd]
  unfold method
  simp [go_sem, hti, hfm, hm.1, hm.2, follow, hud, hf0, Place.get, asAddr, hf1.1, hf1.2.1, hf1.2.2, hpl, receiverAt, hub]

set_option maxRecDepth 100000 in
theorem passFodderElement (w : World) (a b c d : Value) :
    Calls Tryf.prog 77 #[a, b, c, d] w fun e w' => e = .returned (.tuple #[]) ∧ w = w' := by
  go_enter Tryf.func77, Tryf.ntmps77
  go_wp2_with fail
  go_end0
  exact ⟨rfl, rfl⟩

set_option maxRecDepth 100000 in
theorem nilA_FodderElement (pb : Nat) (w : World) : (nilAhead 366 78 (.pointer (some ⟨pb, 0, none⟩)) "FodderElement").run Tryf.prog w = .ok (some false) w := by kernel_rfl
theorem base_field : ((Tryf.prog.underlying 82).bind fun d => match d with | .struct fs => (fs[0]?).map fun f => (f.type, f.offset, f.byteOffset) | _ => none) = some (80, 0, 0) := by kernel_rfl
set_option maxRecDepth 100000 in
theorem meth_FodderElement (pb : Nat) (w : World) (h : IsPass w pb) : (method 366 78 (.pointer (some ⟨pb, 0, none⟩)) "FodderElement").run Tryf.prog w = .ok (77, .pointer (some ⟨pb, 0, none⟩)) w :=
  meth_base w pb h _ _ 365 (by kernel_rfl) base_field

set_option maxRecDepth 100000 in
set_option maxHeartbeats 1000000 in
theorem passFodder (w : World) (base : Nat) (r : Value) (pb fb fo : Nat) (hpb : IsPass w pb) (ctx : Value) (v : Value) (l : List FE) (h : Fod w base v l) (hc : w.cell? ⟨fb, fo, none⟩ = some v) :
    Calls Tryf.prog 65 #[r, .iface 78 (.pointer (some ⟨pb, 0, none⟩)), .pointer (some ⟨fb, fo, none⟩), ctx] w fun e w' => e = .returned (.tuple #[]) ∧ Kept [] w w' := by
  obtain ⟨a, cap, rfl, hlc, hcm, ha⟩ := h.slice
  unfold maxLen at hcm
  obtain ⟨n, hn⟩ : ∃ n, l.length = n := ⟨_, rfl⟩
  have H := Lib.hid h; clear h
  have HA := Lib.hid ha; clear ha
  rw [hn] at hlc hc
  have HN := Lib.hid hn; clear hn
  have hn1 := nilA_FodderElement pb
  go_enter Tryf.func65, Tryf.ntmps65
  go_wp2_with fail
  go_loopw [13] (fun i wr => ∃ k : Nat, k ≤ n ∧ i = .int .i64 k ∧ Kept [] w wr) (fun i _ => n - (intOf i).toNat)
  case atStart => exact ⟨0, Nat.zero_le _, rfl, Kept.refl _ _⟩
  case round =>
    obtain ⟨k, hk, rfl, hb⟩ := hrel
    have hc' := hb.cell hc (by simp)
    have HB := Lib.hid hb; clear hb
    by_cases hlt : k < n
    · obtain ⟨g, rfl, hg1, hg2⟩ := HA.out k (by rw [HN.out]; exact hlt)
      have i1 : (0 : Int) ≤ (k : Int) := by omega
      have i2 : (k : Int) < (n : Int) := by omega
      have hm1 := meth_FodderElement pb wr.drew ((hpb.kept HB.out (by simp)).kept (Kept.refl [] wr).drew (by simp))
      have HPB := Lib.hid hpb; clear hpb
      go_wp2_with fail
      go_still_tail 11, (by kernel_rfl)
      go_wp2_with fail
      refine (passFodderElement _ _ _ _ _).mono ?_
      rintro e w' ⟨rfl, rfl⟩
      go_wp2_with fail
      go_roundw
      case rel => exact ⟨k + 1, by omega, by go_num, HB.out.drew⟩
      case measure => simp [intOf]; omega
    · obtain rfl : k = n := by omega
      go_wp2_with fail
      go_end0
      exact ⟨rfl, HB.out⟩
end Go.Proofs.YtinaihfbakkcmaaFmt
