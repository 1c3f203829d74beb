/- The contracts of n008_135's ZZ functions over import elements. -/
import Derived.Test.YtddcpnhpjgeldaaFmtFS6
namespace Go.Proofs.YtddcpnhpjgeldaaFmt
open Go.ChangeShapes Go.WideShapes Go.ChangeAt Go.RowKit

set_option maxRecDepth 100000 in
theorem extractZ_any (w0 w : World) (ba : Option Addr) (n cap : Nat) (ys : List BX) (files vars : List ByteArray) (dd : List (List ZE)) (aa : Option Addr) (an ac : Nat) (la : List FE) (z : List ZE) (hk0 : Kept [] w0 w) (hb : RdY w0 ba n cap ys) (hbs : BndAt w0 files dd ys) (hvars : ys.map BX.var = vars) (hn0 : 0 < n) (hn : n ≤ 65536) (hrows : ∀ i, (adjC dd i).length ≤ 65536 ∧ ∀ e ∈ adjC dd i, e.c ≤ 4)
    (ha : Fod w w0.heap.size (.slice aa an ac) la) (hz : codes la = z) (hla : la.length ≤ 65536) :
    Calls Tryf.prog 11 #[.slice ba n cap, .slice aa an ac] w fun e w' => ∃ (t : Trip) (xs : List IX), e = .returned t.val ∧ t.2.1 = n ∧ RdX w' t.1 n t.2.2 xs ∧ xs.length = n ∧ OutAt (F0 w') files vars dd n z xs ∧ Kept [] w0 w' := by
  have HC := Lib.hid (extract_any w0 w ba n cap ys files vars dd aa an ac la z hk0 hb hbs hvars hn0 hn hrows ha hz hla)
  clear hb hbs hrows ha hvars
  go_enter Tryf.func11, Tryf.ntmps11
  go_wp2_with fail
  refine HC.out.mono ?_
  rintro e w1 ⟨⟨ta, tn, tc⟩, xs, rfl, htn, h1, h2, h3, k1⟩
  dsimp only at htn
  subst htn
  have H1 := Lib.hid (OwnR.rdx h1); clear h1
  have H3 := Lib.hid h3; clear h3
  have K1 := Lib.hid k1; clear k1
  unfold Trip.val
  dsimp only
  go_wp2_with fail
  go_ret
  exact ⟨ta, tn, tc, rfl, rfl, xs, H1.out, h2, H3.out, K1.out⟩

set_option maxRecDepth 100000 in
theorem elemAdj_any (w : World) (v0 v1 v2 v3 v4 v5 v6 v7 v8 v9 v10 v11 v12 v13 : Value) :
    Calls Tryf.prog 16 #[.agg #[v0, v1, v2, v3, v4, v5, v6, v7, v8, v9, v10, v11, v12, v13]] w fun e w' => e = .returned (v0) ∧ Kept [] w w' := by
  go_enter Tryf.func16, Tryf.ntmps16
  go_wp2_with fail
  go_ret
  exact ⟨rfl, (Kept.refl _ _).alloc _⟩

set_option maxRecDepth 100000 in
theorem elemKey_any (w : World) (kk : ByteArray) (v0 v2 v3 v4 v5 v6 v7 v8 v9 v10 v11 v12 v13 : Value) :
    Calls Tryf.prog 14 #[.agg #[v0, .string kk, v2, v3, v4, v5, v6, v7, v8, v9, v10, v11, v12, v13]] w fun e w' => e = .returned (.string kk) ∧ Kept [] w w' := by
  go_enter Tryf.func14, Tryf.ntmps14
  go_wp2_with fail
  go_ret
  exact ⟨rfl, (Kept.refl _ _).alloc _⟩

set_option maxRecDepth 100000 in
theorem elemVarF_any (w : World) (v0 v1 v2 v3 v4 v5 v6 v7 v8 v9 v10 v11 v12 v13 : Value) :
    Calls Tryf.prog 13 #[.agg #[v0, v1, v2, v3, v4, v5, v6, v7, v8, v9, v10, v11, v12, v13]] w fun e w' => e = .returned (v2) ∧ Kept [] w w' := by
  go_enter Tryf.func13, Tryf.ntmps13
  go_wp2_with fail
  go_ret
  exact ⟨rfl, (Kept.refl _ _).alloc _⟩

set_option maxRecDepth 100000 in
theorem elemVari_any (w : World) (vv : ByteArray) (v0 v1 v2 v3 v4 v6 v7 v8 v9 v10 v11 v12 v13 : Value) :
    Calls Tryf.prog 15 #[.agg #[v0, v1, v2, v3, v4, .string vv, v6, v7, v8, v9, v10, v11, v12, v13]] w fun e w' => e = .returned (.string vv) ∧ Kept [] w w' := by
  go_enter Tryf.func15, Tryf.ntmps15
  go_wp2_with fail
  go_ret
  exact ⟨rfl, (Kept.refl _ _).alloc _⟩
end Go.Proofs.YtddcpnhpjgeldaaFmt
