/- The contracts of the base's Index (with an Id) and ApplyBrace, given that the own Visit keeps all at the children. -/
import Derived.Test.YtaedhbpfmjiheaaFmtRvB
import Derived.Test.YtaedhbpfmjiheaaFmtVcI
import Derived.Test.YtaedhbpfmjiheaaFmtVcA
namespace Go.Proofs.YtaedhbpfmjiheaaFmt
open Go.ChangeShapes Go.WideShapes Go.ChangeAt Go.RowKit

set_option maxRecDepth 100000 in
set_option maxHeartbeats 4000000 in
theorem base_ApplyBrace (w : World) (r : Value) (pb xb : Nat) (hpb : IsPass w pb) (ctx : Value) (hl : Calm w pb ctx xb 0) (hr : Calm w pb ctx xb 1) :
    Calls Tryf.prog 43 #[r, .iface 55 (.pointer (some ⟨pb, 0, none⟩)), .pointer (some ⟨xb, 0, none⟩), ctx] w fun e w' => e = .returned (.tuple #[]) ∧ Kept [] w w' := by
  have HPB := Lib.hid hpb; clear hpb
  have HL := Lib.hid hl; clear hl
  have HR := Lib.hid hr; clear hr
  have n1 := nilA_Visit pb
  have hm := meth_Visit pb w.drew (HPB.out.kept (Kept.refl [] w).drew (by simp))
  go_enter Tryf.func43, Tryf.ntmps43
  go_wp2_with fail
  go_still_tail 9, (by kernel_rfl)
  go_wp2_with fail
  refine (HL.out _ (Kept.refl [] w).drew).mono ?_
  rintro e w1 ⟨rfl, k⟩
  have k1 := (Kept.refl [] w).drew.trans k
  have K1 := Lib.hid k1; clear k1 k hm
  have hm := meth_Visit pb w1.drew (HPB.out.kept K1.out.drew (by simp))
  go_wp2_with fail
  go_still_tail 9, (by kernel_rfl)
  go_wp2_with fail
  refine (HR.out _ K1.out.drew).mono ?_
  rintro e w3 ⟨rfl, k⟩
  have k3 := K1.out.drew.trans k
  have K3 := Lib.hid k3; clear k3 k hm
  go_wp2_with fail
  go_end0
  exact ⟨rfl, K3.out⟩

set_option maxRecDepth 100000 in
set_option maxHeartbeats 4000000 in
theorem base_Index (w : World) (base : Nat) (r : Value) (pb xb ib : Nat) (hpb : IsPass w pb) (ctx : Value) (fv : Value) (l : List FE) (h : Fod w base fv l) (hc : w.cell? ⟨xb, 3, none⟩ = some fv)
    (hi : w.cell? ⟨xb, 4, none⟩ = some (.pointer (some ⟨ib, 0, none⟩))) (hl : Calm w pb ctx xb 0) :
    Calls Tryf.prog 58 #[r, .iface 55 (.pointer (some ⟨pb, 0, none⟩)), .pointer (some ⟨xb, 0, none⟩), ctx] w fun e w' => e = .returned (.tuple #[]) ∧ Kept [] w w' := by
  have HPB := Lib.hid hpb; clear hpb
  have H := Lib.hid h; clear h
  have HC := Lib.hid hc; clear hc
  have HI := Lib.hid hi; clear hi
  have HL := Lib.hid hl; clear hl
  have n1 := nilA_Visit pb
  have n2 := nilA_Fodder pb
  have hm := meth_Visit pb w.drew (HPB.out.kept (Kept.refl [] w).drew (by simp))
  go_enter Tryf.func58, Tryf.ntmps58
  go_wp2_with fail
  go_still_tail 9, (by kernel_rfl)
  go_wp2_with fail
  refine (HL.out _ (Kept.refl [] w).drew).mono ?_
  rintro e w1 ⟨rfl, k⟩
  have k1 := (Kept.refl [] w).drew.trans k
  have K1 := Lib.hid k1; clear k1 k hm
  have hm := meth_Fodder pb w1.drew (HPB.out.kept K1.out.drew (by simp))
  go_wp2_with fail
  go_still_tail 9, (by kernel_rfl)
  go_wp2_with fail
  refine (passFodder _ base _ pb xb 3 (HPB.out.kept K1.out.drew (by simp)) _ fv l (H.out.kept K1.out.drew (by simp)) (K1.out.drew.cell HC.out (by simp))).mono ?_
  rintro e w2 ⟨rfl, k⟩
  have k2 := K1.out.drew.trans k
  have hi2 := k2.cell HI.out (by simp)
  have K2 := Lib.hid k2; clear k2 k hm
  go_wp2_with fail
  go_end0
  exact ⟨rfl, K2.out⟩
end Go.Proofs.YtaedhbpfmjiheaaFmt
