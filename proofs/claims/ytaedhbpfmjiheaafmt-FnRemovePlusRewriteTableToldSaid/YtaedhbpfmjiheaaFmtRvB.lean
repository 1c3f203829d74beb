/- The contract of the base's Binary, given that the own Visit keeps all at both operands. -/
import Derived.Test.YtaedhbpfmjiheaaFmtRvO
import Derived.Test.YtaedhbpfmjiheaaFmtVcB
namespace Go.Proofs.YtaedhbpfmjiheaaFmt
open Go.ChangeShapes Go.WideShapes Go.ChangeAt Go.RowKit

/-- The own Visit, from any world kept from w, keeps all at this slot. -/
def Calm (w : World) (pb : Nat) (ctx : Value) (nb no : Nat) : Prop := ∀ w2 : World, Kept [] w w2 →
  Calls Tryf.prog 6 #[.pointer (some ⟨pb, 0, none⟩), .iface 55 (.pointer (some ⟨pb, 0, none⟩)), .pointer (some ⟨nb, no, none⟩), ctx] w2 fun e w' => e = .returned (.tuple #[]) ∧ Kept [] w2 w'
theorem Calm.kept {w w' : World} {pb : Nat} {ctx : Value} {nb no : Nat} (h : Calm w pb ctx nb no) (k : Kept [] w w') : Calm w' pb ctx nb no := fun w2 k2 => h w2 (k.trans k2)

set_option maxRecDepth 100000 in
set_option maxHeartbeats 4000000 in
theorem base_Binary (w : World) (base : Nat) (r : Value) (pb xb : Nat) (hpb : IsPass w pb) (ctx : Value) (fv : Value) (l : List FE) (h : Fod w base fv l) (hc : w.cell? ⟨xb, 2, none⟩ = some fv)
    (hl : Calm w pb ctx xb 1) (hr : Calm w pb ctx xb 0) :
    Calls Tryf.prog 48 #[r, .iface 55 (.pointer (some ⟨pb, 0, none⟩)), .pointer (some ⟨xb, 0, none⟩), ctx] w fun e w' => e = .returned (.tuple #[]) ∧ Kept [] w w' := by
  have HPB := Lib.hid hpb; clear hpb
  have H := Lib.hid h; clear h
  have HC := Lib.hid hc; clear hc
  have HL := Lib.hid hl; clear hl
  have HR := Lib.hid hr; clear hr
  have n1 := nilA_Visit pb
  have n2 := nilA_Fodder pb
  have hm := meth_Visit pb w.drew (HPB.out.kept (Kept.refl [] w).drew (by simp))
  go_enter Tryf.func48, Tryf.ntmps48
  go_wp2_with fail
  go_still_tail 9, (by kernel_rfl)
  go_wp2_with fail
  refine (HL.out _ (Kept.refl [] w).drew).mono ?_
  rintro e w1 ⟨rfl, k⟩
  have k1 := (Kept.refl [] w).drew.trans k
  have K1 := Lib.hid k1; clear k1 k hm
  have hm := meth_Fodder pb w1.drew (HPB.out.kept K1.out.drew (by simp))
  go_wp2_with fail
  go_still_tail 9, (by kernel_rfl)
  go_wp2_with fail
  refine (passFodder _ base _ pb xb 2 (HPB.out.kept K1.out.drew (by simp)) _ fv l (H.out.kept K1.out.drew (by simp)) (K1.out.drew.cell HC.out (by simp))).mono ?_
  rintro e w2 ⟨rfl, k⟩
  have k2 := K1.out.drew.trans k
  have K2 := Lib.hid k2; clear k2 k hm
  have hm := meth_Visit pb w2.drew (HPB.out.kept K2.out.drew (by simp))
  go_wp2_with fail
  go_still_tail 9, (by kernel_rfl)
  go_wp2_with fail
  refine (HR.out _ K2.out.drew).mono ?_
  rintro e w3 ⟨rfl, k⟩
  have k3 := K2.out.drew.trans k
  have K3 := Lib.hid k3; clear k3 k hm
  go_wp2_with fail
  go_end0
  exact ⟨rfl, K3.out⟩
end Go.Proofs.YtaedhbpfmjiheaaFmt
