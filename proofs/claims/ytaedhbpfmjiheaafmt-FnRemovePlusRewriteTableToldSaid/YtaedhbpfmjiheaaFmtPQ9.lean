/- The law FnRemovePlusRewriteTable returns true at every input and leaves its arguments as they were; no condition. fmt lies on its road's text and is never reached. The walk is in YtaedhbpfmjiheaaFmtRwW. -/
import Derived.Test.YtaedhbpfmjiheaaFmtRows
import Derived.Test.YtaedhbpfmjiheaaFmtCards
import Derived.Test.YtaedhbpfmjiheaaFmtRwW
import Derived.Test.YtaedhbpfmjiheaaFmtFacts
import Derived.WalkKit
import Derived.ProofKit
import Derived.OpenShut
import Derived.ShutString
import Derived.ChangeOld
import Derived.Below
import Derived.Stop.JoinedAt
import Derived.Stop.JoinedTold
import Derived.SevenToldRow
namespace Go.Proofs.YtaedhbpfmjiheaaFmt.fnRemovePlusRewriteTable
open Go.ChangeShapes Go.WideShapes Go.ChangeAt Go.RowKit
open Go.ChangeMaps (open_string shut_string)
set_option linter.unusedVariables false

theorem laidOut : laidOutB Tryf.prog = true := F_laid

set_option maxRecDepth 100000 in
theorem lifted (os : Os) (started : os.Started) (H : Type) (enc : TypeId × Value → H) :
    ReturnsInTold none {} Tryf.checked os 3 .any Input.okWide ((OpenSpec.ofChange Rows.fnRemovePlusRewriteTableSpec).preRow enc Tryf.prog Tryf.f3 [] false []) (fun F => ((OpenSpec.ofChange Rows.fnRemovePlusRewriteTableSpec).at F).post enc Tryf.prog Tryf.f3 false true false false) (aloneAtReturn Tryf.prog) nothingAlways := by
  refine returnsInTold_of_row (C := Tryf.checked) (s := (OpenSpec.ofChange Rows.fnRemovePlusRewriteTableSpec)) F_enter F_own started (by kernel_rfl) Tryf.func3
    (OpenSpec.witness_stopped (enc := enc) (C := Tryf.checked) false ⟨#[], #[.int .i64 0, .int .i64 0, .int .i64 0, .int .i64 0, .int .i64 0, .int .i64 0, .int .i64 0, .int .i64 0], []⟩ 8 (by kernel_rfl) (by kernel_rfl) (by kernel_rfl) (by kernel_rfl)) ?_
  intro F W base args ds gs before _ hF hval0 hW _ _ _ _ _
  have hval : ∀ (j : Nat) t v, Tryf.f3.params[j]? = some t → args[j]? = some v → Value.okWide Tryf.prog W .any base t v := hval0
  have hW' := hW
  obtain ⟨p, q, hA0, hV, rfl, hfz, hnd⟩ := hW
  have hA : DataW.TrodAll enc Tryf.prog W 0 (fun _ => true) true Tryf.f3.params.toList args.toList ds p := hA0
  rw [Tryf.params3] at hA hval
  obtain ⟨v0, vs0, d0, ds0, p0, q0, hargs, rfl, rfl, h0, r0⟩ := trodAll_cons hA
  obtain ⟨v1, vs1, d1, ds1, p1, q1, rfl, rfl, rfl, h1, r1⟩ := trodAll_cons r0
  obtain ⟨v2, vs2, d2, ds2, p2, q2, rfl, rfl, rfl, h2, r2⟩ := trodAll_cons r1
  obtain ⟨v3, vs3, d3, ds3, p3, q3, rfl, rfl, rfl, h3, r3⟩ := trodAll_cons r2
  obtain ⟨v4, vs4, d4, ds4, p4, q4, rfl, rfl, rfl, h4, r4⟩ := trodAll_cons r3
  obtain ⟨v5, vs5, d5, ds5, p5, q5, rfl, rfl, rfl, h5, r5⟩ := trodAll_cons r4
  obtain ⟨v6, vs6, d6, ds6, p6, q6, rfl, rfl, rfl, h6, r6⟩ := trodAll_cons r5
  obtain ⟨v7, vs7, d7, ds7, p7, q7, rfl, rfl, rfl, h7, r7⟩ := trodAll_cons r6
  obtain ⟨rfl, rfl, rfl⟩ := trodAll_nil r7
  obtain rfl : args = #[v0, v1, v2, v3, v4, v5, v6, v7] := by cases args; simp_all
  obtain ⟨rfl, rfl⟩ := trodVars_none hV
  obtain ⟨a0, rfl, rfl, rfl, w0⟩ := open_int Tryf.underlying3 (hval 0 3 v0 rfl rfl) h0
  obtain ⟨a1, rfl, rfl, rfl, w1⟩ := open_int Tryf.underlying3 (hval 1 3 v1 rfl rfl) h1
  obtain ⟨a2, rfl, rfl, rfl, w2⟩ := open_int Tryf.underlying3 (hval 2 3 v2 rfl rfl) h2
  obtain ⟨a3, rfl, rfl, rfl, w3⟩ := open_int Tryf.underlying3 (hval 3 3 v3 rfl rfl) h3
  obtain ⟨a4, rfl, rfl, rfl, w4⟩ := open_int Tryf.underlying3 (hval 4 3 v4 rfl rfl) h4
  obtain ⟨a5, rfl, rfl, rfl, w5⟩ := open_int Tryf.underlying3 (hval 5 3 v5 rfl rfl) h5
  obtain ⟨a6, rfl, rfl, rfl, w6⟩ := open_int Tryf.underlying3 (hval 6 3 v6 rfl rfl) h6
  obtain ⟨a7, rfl, rfl, rfl, w7⟩ := open_int Tryf.underlying3 (hval 7 3 v7 rfl rfl) h7
  clear hA0 hval0
  refine (walk a0 a1 a2 a3 a4 a5 a6 a7 W w0 w1 w2 w3 w4 w5 w6 w7).mono fun e W' ⟨he, bel⟩ => ?_
  subst he
  exact ⟨_, rfl, _, _, _, [], _, [], hW', trodAll_mk1 (shut_bool Tryf.underlying4 _), (trodAll_cons_mk (shut_int Tryf.underlying3 w0) (trodAll_cons_mk (shut_int Tryf.underlying3 w1) (trodAll_cons_mk (shut_int Tryf.underlying3 w2) (trodAll_cons_mk (shut_int Tryf.underlying3 w3) (trodAll_cons_mk (shut_int Tryf.underlying3 w4) (trodAll_cons_mk (shut_int Tryf.underlying3 w5) (trodAll_cons_mk (shut_int Tryf.underlying3 w6) (trodAll_cons_mk (shut_int Tryf.underlying3 w7) trodAll_mk0)))))))), rfl, bel.frame _, fun h => by cases h⟩

theorem k_wf : Rows.fnRemovePlusRewriteTableRow.wf (OpenSpec.ofChange Rows.fnRemovePlusRewriteTableSpec) = true := by kernel_rfl
theorem k_tie : namedTie Tryf.prog Rows.fnRemovePlusRewriteTableRow.namedList (OpenSpec.ofChange Rows.fnRemovePlusRewriteTableSpec).vars = true := by kernel_rfl
theorem k_fn : Tryf.prog.funcNamed Rows.fnRemovePlusRewriteTableRow.func = some 3 := by kernel_rfl
theorem k_r : (Tryf.f3.params.toList.all fun t => Tryf.prog.readableRec t) = true := by kernel_rfl
theorem k_in : Rows.fnRemovePlusRewriteTableRow.inPlace = Tryf.prog.inPlace 3 := by kernel_rfl
theorem k_op : Rows.fnRemovePlusRewriteTableRow.unfollowed = Tryf.prog.unfollowed 3 := by kernel_rfl
theorem k_rc : Rows.fnRemovePlusRewriteTableRow.recurses = Tryf.prog.recurses 3 := by kernel_rfl
theorem k_vs : Rows.fnRemovePlusRewriteTableRow.named = Tryf.prog.varsNamed 3 := by kernel_rfl
theorem k_mp : Rows.fnRemovePlusRewriteTableRow.maps = (Tryf.f3.params.toList ++ (OpenSpec.ofChange Rows.fnRemovePlusRewriteTableSpec).bare.plain.varTypes Tryf.prog).any (Tryf.prog.mapsRec ·) := by kernel_rfl
theorem k_if : Rows.fnRemovePlusRewriteTableRow.ifaces = (Tryf.f3.params.toList ++ (OpenSpec.ofChange Rows.fnRemovePlusRewriteTableSpec).bare.plain.varTypes Tryf.prog).any (Tryf.prog.ifacesRec ·) := by kernel_rfl
theorem k_mo : Rows.fnRemovePlusRewriteTableRow.mapsOut = Tryf.prog.mapsAmong Tryf.f3.resultTypes.toList := by kernel_rfl
theorem k_lo : Rows.fnRemovePlusRewriteTableRow.loops = (Tryf.f3.params.toList ++ (OpenSpec.ofChange Rows.fnRemovePlusRewriteTableSpec).bare.plain.varTypes Tryf.prog).any (Tryf.prog.loopsFrom ·) := by kernel_rfl
theorem k_wk : Rows.fnRemovePlusRewriteTableRow.wideKeys = (Tryf.f3.params.toList ++ (OpenSpec.ofChange Rows.fnRemovePlusRewriteTableSpec).bare.plain.varTypes Tryf.prog ++ Tryf.f3.resultTypes.toList).any (Tryf.prog.wideKeysFrom ·) := by kernel_rfl
theorem k_va : ((OpenSpec.ofChange Rows.fnRemovePlusRewriteTableSpec).vars.all fun n => Tryf.prog.varReadable n) = true := by kernel_rfl
theorem k_fu : (Tryf.f3.params.toList.all fun t => !Tryf.prog.wantsStandIn t) = true := by kernel_rfl
theorem k_go : false = Rows.fnRemovePlusRewriteTableRow.goesBy Tryf.prog := by kernel_rfl
theorem k_h4 : (Tryf.f3.resultTypes.toList.all fun t => Tryf.prog.readableRec t && decide (t < Tryf.prog.types.size)) = true := by kernel_rfl
theorem k_h6 : Rows.fnRemovePlusRewriteTableRow.ifacesOut = Tryf.f3.resultTypes.toList.any (Tryf.prog.ifacesRec ·) := by kernel_rfl
theorem k_h7 : Rows.fnRemovePlusRewriteTableRow.loopsOut = Tryf.f3.resultTypes.toList.any (Tryf.prog.loopsFrom ·) := by kernel_rfl
theorem k_h9 : Rows.fnRemovePlusRewriteTableRow.pinned = Rows.fnRemovePlusRewriteTableRow.pinnedBy := by kernel_rfl
theorem k_v1 : Rows.fnRemovePlusRewriteTableRow.veiled = (Tryf.f3.params.toList ++ (OpenSpec.ofChange Rows.fnRemovePlusRewriteTableSpec).bare.plain.varTypes Tryf.prog ++ Tryf.f3.resultTypes.toList).any (Tryf.prog.veiledRec ·) := by kernel_rfl
theorem k_v2 : Rows.fnRemovePlusRewriteTableRow.veiledFits Tryf.prog Tryf.f3.params.toList (Tryf.f3.params.toList ++ (OpenSpec.ofChange Rows.fnRemovePlusRewriteTableSpec).bare.plain.varTypes Tryf.prog ++ Tryf.f3.resultTypes.toList) = true := by kernel_rfl

theorem over : Claim7.holds Tryf.pinned (.plain (OpenSpec.ofChange Rows.fnRemovePlusRewriteTableSpec)) Rows.fnRemovePlusRewriteTableCard :=
  Claim7.holds_of_told_any 3 Tryf.f3 "fmt.Sprintf" [] [] _ _ _ k_wf rfl rfl rfl F_laid F_maps rfl ⟨rfl, rfl, rfl, rfl, rfl, rfl, rfl⟩ rfl rfl k_tie k_fn Tryf.func3 k_r
    (of_decide_eq_true (by kernel_rfl)) (by unfold Func.isWrapper; first | (rw [if_pos (by decide +kernel)]; kernel_rfl) | (rw [if_neg (by decide +kernel)]; exact ⟨rfl, rfl⟩)) F_stops.symm rfl F_knobs.symm F_env
    k_in k_op k_rc k_vs k_mp k_if k_mo k_lo k_wk rfl k_va rfl rfl
    rfl rfl
    rfl F_main F_looks k_fu (by decide) k_go
    (OpenClaim.moreEntering_of F_enter k_h4 F_heard k_h6 k_h7 (by kernel_rfl) k_h9 F_keys F_lift F_make)
    ⟨_, WideRow.started_initial, F_quiet _⟩
    (fun os started _ H enc _ => lifted os started H enc) ⟨k_v1, k_v2⟩

theorem proved : Rows.FnRemovePlusRewriteTableToldSaid := over
#print axioms proved
end Go.Proofs.YtaedhbpfmjiheaaFmt.fnRemovePlusRewriteTable
