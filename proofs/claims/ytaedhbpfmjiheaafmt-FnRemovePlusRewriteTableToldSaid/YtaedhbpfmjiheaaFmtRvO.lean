/- The contract of the pass's own Visit at a node that is no Binary: it is the base's Visit. -/
import Derived.Test.YtaedhbpfmjiheaaFmtVisV
import Derived.Test.YtaedhbpfmjiheaaFmtVisN
import Derived.Test.YtaedhbpfmjiheaaFmtVisD
namespace Go.Proofs.YtaedhbpfmjiheaaFmt
open Go.ChangeShapes Go.WideShapes Go.ChangeAt Go.RowKit

set_option maxRecDepth 100000 in
set_option maxHeartbeats 1000000 in
theorem ownVisit (w : World) (T : TypeId) (v p ctx : Value) (pb nb no : Nat) (hpb : IsPass w pb) (hn : w.cell? ⟨nb, no, none⟩ = some (.iface T v))
    (ta : ∀ w : World, (Instr.typeAssert (.iface T v) 23 51 true).run Tryf.prog w = .ok (.tuple #[.pointer none, .bool false]) w) (Q : Ending → World → Prop)
    (hb : Calls Tryf.prog 14 #[.pointer (some ⟨pb, 0, none⟩), p, .pointer (some ⟨nb, no, none⟩), ctx] w Q) (hq : ∀ e w', Q e w' → e = .returned (.tuple #[])) :
    Calls Tryf.prog 6 #[.pointer (some ⟨pb, 0, none⟩), p, .pointer (some ⟨nb, no, none⟩), ctx] w Q := by
  go_enter Tryf.func6, Tryf.ntmps6
  have hp := part_base w pb hpb
  go_wp2_with fail
  refine hb.mono ?_
  intro e w' hQ
  obtain rfl := hq e w' hQ
  have HQ := Lib.hid hQ; clear hQ
  go_wp2_with fail
  go_end0
  exact HQ.out
theorem own_Var (w : World) (base : Nat) (pb nb no xb : Nat) (hpb : IsPass w pb) (ctx : Value) (fv : Value) (l : List FE) (h : Fod w base fv l)
    (hn : w.cell? ⟨nb, no, none⟩ = some (.iface 30 (.pointer (some ⟨xb, 0, none⟩)))) (hx : w.cell? ⟨xb, 1, none⟩ = some fv) (hf : w.frozen? ⟨xb, 1, none⟩ = false) :
    Calls Tryf.prog 6 #[.pointer (some ⟨pb, 0, none⟩), .iface 55 (.pointer (some ⟨pb, 0, none⟩)), .pointer (some ⟨nb, no, none⟩), ctx] w fun e w' => e = .returned (.tuple #[]) ∧ Kept [] w w' :=
  ownVisit w _ _ _ _ pb nb no hpb hn (fun w => ta_no_Binary 30 (.pointer (some ⟨xb, 0, none⟩)) 23 w (by decide)) _ (visit_Var w base _ pb nb no xb hpb ctx fv l h hn hx hf) (fun _ _ h => h.1)

theorem own_LiteralNull (w : World) (base : Nat) (pb nb no xb : Nat) (hpb : IsPass w pb) (ctx : Value) (fv : Value) (l : List FE) (h : Fod w base fv l)
    (hn : w.cell? ⟨nb, no, none⟩ = some (.iface 29 (.pointer (some ⟨xb, 0, none⟩)))) (hx : w.cell? ⟨xb, 0, none⟩ = some fv) (hf : w.frozen? ⟨xb, 0, none⟩ = false) :
    Calls Tryf.prog 6 #[.pointer (some ⟨pb, 0, none⟩), .iface 55 (.pointer (some ⟨pb, 0, none⟩)), .pointer (some ⟨nb, no, none⟩), ctx] w fun e w' => e = .returned (.tuple #[]) ∧ Kept [] w w' :=
  ownVisit w _ _ _ _ pb nb no hpb hn (fun w => ta_no_Binary 29 (.pointer (some ⟨xb, 0, none⟩)) 23 w (by decide)) _ (visit_LiteralNull w base _ pb nb no xb hpb ctx fv l h hn hx hf) (fun _ _ h => h.1)

theorem own_Dollar (w : World) (base : Nat) (pb nb no xb : Nat) (hpb : IsPass w pb) (ctx : Value) (fv : Value) (l : List FE) (h : Fod w base fv l)
    (hn : w.cell? ⟨nb, no, none⟩ = some (.iface 78 (.pointer (some ⟨xb, 0, none⟩)))) (hx : w.cell? ⟨xb, 0, none⟩ = some fv) (hf : w.frozen? ⟨xb, 0, none⟩ = false) :
    Calls Tryf.prog 6 #[.pointer (some ⟨pb, 0, none⟩), .iface 55 (.pointer (some ⟨pb, 0, none⟩)), .pointer (some ⟨nb, no, none⟩), ctx] w fun e w' => e = .returned (.tuple #[]) ∧ Kept [] w w' :=
  ownVisit w _ _ _ _ pb nb no hpb hn (fun w => ta_no_Binary 78 (.pointer (some ⟨xb, 0, none⟩)) 23 w (by decide)) _ (visit_Dollar w base _ pb nb no xb hpb ctx fv l h hn hx hf) (fun _ _ h => h.1)
end Go.Proofs.YtaedhbpfmjiheaaFmt
