/- The law FnObjectCompMatchesModel returns true at every input and leaves its arguments as they were; no condition. fmt lies on its road's text and is never reached. The walk is in YtgdipdbmllkckaaGreatFmtW8. -/
import Derived.Test.YtgdipdbmllkckaaGreatFmtRows
import Derived.Test.YtgdipdbmllkckaaGreatFmtCards
import Derived.Test.YtgdipdbmllkckaaGreatFmtW8
import Derived.Test.YtgdipdbmllkckaaGreatFmtFacts
import Derived.WalkKit
import Derived.ProofKit
import Derived.OpenShut
import Derived.ShutString
import Derived.ChangeOld
import Derived.Below
import Derived.Stop.JoinedAt
import Derived.Stop.JoinedTold
import Derived.SevenToldRow
namespace Go.Proofs.YtgdipdbmllkckaaGreatFmt.fnObjectCompMatchesModel
open Go.ChangeShapes Go.WideShapes Go.ChangeAt Go.RowKit
open Go.ChangeMaps (open_string shut_string)
set_option linter.unusedVariables false

theorem laidOut : laidOutB Tryz.prog = true := F_laid

set_option maxRecDepth 100000 in
theorem lifted (os : Os) (started : os.Started) (H : Type) (enc : TypeId × Value → H) :
    ReturnsInTold none {} Tryz.checked os 3 .any Input.okWide ((OpenSpec.ofChange Rows.fnObjectCompMatchesModelSpec).preRow enc Tryz.prog Tryz.f3 [] false []) (fun F => ((OpenSpec.ofChange Rows.fnObjectCompMatchesModelSpec).at F).post enc Tryz.prog Tryz.f3 false true false false) (aloneAtReturn Tryz.prog) nothingAlways := by
  refine returnsInTold_of_row (C := Tryz.checked) (s := (OpenSpec.ofChange Rows.fnObjectCompMatchesModelSpec)) F_enter F_own started (by kernel_rfl) Tryz.func3
    (OpenSpec.witness_stopped (enc := enc) (C := Tryz.checked) false ⟨#[], #[.slice none 0 0, .slice none 0 0, .slice none 0 0], []⟩ 8 (by kernel_rfl) (by kernel_rfl) (by kernel_rfl) (by kernel_rfl)) ?_
  intro F W base args ds gs before _ hF hval0 hW _ _ _ _ _
  have hval : ∀ (j : Nat) t v, Tryz.f3.params[j]? = some t → args[j]? = some v → Value.okWide Tryz.prog W .any base t v := hval0
  have hW' := hW
  obtain ⟨p, q, hA0, hV, rfl, hfz, hnd⟩ := hW
  have hA : DataW.TrodAll enc Tryz.prog W 0 (fun _ => true) true Tryz.f3.params.toList args.toList ds p := hA0
  rw [Tryz.params3] at hA hval
  obtain ⟨v0, vs0, d0, ds0, p0, q0, hargs, rfl, rfl, h0, r0⟩ := trodAll_cons hA
  obtain ⟨v1, vs1, d1, ds1, p1, q1, rfl, rfl, rfl, h1, r1⟩ := trodAll_cons r0
  obtain ⟨v2, vs2, d2, ds2, p2, q2, rfl, rfl, rfl, h2, r2⟩ := trodAll_cons r1
  obtain ⟨rfl, rfl, rfl⟩ := trodAll_nil r2
  obtain rfl : args = #[v0, v1, v2] := by cases args; simp_all
  obtain ⟨rfl, rfl⟩ := trodVars_none hV
  obtain ⟨a0, len0, cap0, rfl⟩ := okWide_slice Tryz.underlying22 (hval 0 22 v0 rfl rfl)
  have k0 := h0
  have lt0 : ∀ x ∈ p0, x.block < W.heap.size := by obtain ⟨m, hm⟩ := k0; exact DataW.trod_lt m _ _ _ hm
  obtain ⟨fuel0, hf0⟩ := h0
  obtain ⟨z0, w0⟩ := open_fields hf0
  obtain ⟨a1, len1, cap1, rfl⟩ := okWide_slice Tryz.underlying23 (hval 1 23 v1 rfl rfl)
  have k1 := h1
  have lt1 : ∀ x ∈ p1, x.block < W.heap.size := by obtain ⟨m, hm⟩ := k1; exact DataW.trod_lt m _ _ _ hm
  obtain ⟨fuel1, hf1⟩ := h1
  obtain ⟨z1, w1⟩ := open_specs hf1
  obtain ⟨a2, len2, cap2, rfl⟩ := okWide_slice Tryz.underlying24 (hval 2 24 v2 rfl rfl)
  have k2 := h2
  have lt2 : ∀ x ∈ p2, x.block < W.heap.size := by obtain ⟨m, hm⟩ := k2; exact DataW.trod_lt m _ _ _ hm
  obtain ⟨fuel2, hf2⟩ := h2
  obtain ⟨z2, w2⟩ := open_els hf2
  clear hA0 hval0
  refine (walk a0 len0 cap0 z0 a1 len1 cap1 z1 a2 len2 cap2 z2 W w0 w1 w2).mono fun e W' ⟨he, bel⟩ => ?_
  subst he
  exact ⟨_, rfl, _, _, _, [], _, [], hW', trodAll_mk1 (shut_bool Tryz.underlying4 _), (trodAll_cons_mk (Below.trod laidOut (by kernel_rfl) (of_decide_eq_true (by kernel_rfl)) k0 bel lt0) (trodAll_cons_mk (Below.trod laidOut (by kernel_rfl) (of_decide_eq_true (by kernel_rfl)) k1 bel lt1) (trodAll_cons_mk (Below.trod laidOut (by kernel_rfl) (of_decide_eq_true (by kernel_rfl)) k2 bel lt2) trodAll_mk0))), rfl, bel.frame _, fun h => by cases h⟩

theorem k_wf : Rows.fnObjectCompMatchesModelRow.wf (OpenSpec.ofChange Rows.fnObjectCompMatchesModelSpec) = true := by kernel_rfl
theorem k_tie : namedTie Tryz.prog Rows.fnObjectCompMatchesModelRow.namedList (OpenSpec.ofChange Rows.fnObjectCompMatchesModelSpec).vars = true := by kernel_rfl
theorem k_fn : Tryz.prog.funcNamed Rows.fnObjectCompMatchesModelRow.func = some 3 := by kernel_rfl
theorem k_r : (Tryz.f3.params.toList.all fun t => Tryz.prog.readableRec t) = true := by kernel_rfl
theorem k_in : Rows.fnObjectCompMatchesModelRow.inPlace = Tryz.prog.inPlace 3 := by kernel_rfl
theorem k_op : Rows.fnObjectCompMatchesModelRow.unfollowed = Tryz.prog.unfollowed 3 := by kernel_rfl
theorem k_rc : Rows.fnObjectCompMatchesModelRow.recurses = Tryz.prog.recurses 3 := by kernel_rfl
theorem k_vs : Rows.fnObjectCompMatchesModelRow.named = Tryz.prog.varsNamed 3 := by kernel_rfl
theorem k_mp : Rows.fnObjectCompMatchesModelRow.maps = (Tryz.f3.params.toList ++ (OpenSpec.ofChange Rows.fnObjectCompMatchesModelSpec).bare.plain.varTypes Tryz.prog).any (Tryz.prog.mapsRec ·) := by kernel_rfl
theorem k_if : Rows.fnObjectCompMatchesModelRow.ifaces = (Tryz.f3.params.toList ++ (OpenSpec.ofChange Rows.fnObjectCompMatchesModelSpec).bare.plain.varTypes Tryz.prog).any (Tryz.prog.ifacesRec ·) := by kernel_rfl
theorem k_mo : Rows.fnObjectCompMatchesModelRow.mapsOut = Tryz.prog.mapsAmong Tryz.f3.resultTypes.toList := by kernel_rfl
theorem k_lo : Rows.fnObjectCompMatchesModelRow.loops = (Tryz.f3.params.toList ++ (OpenSpec.ofChange Rows.fnObjectCompMatchesModelSpec).bare.plain.varTypes Tryz.prog).any (Tryz.prog.loopsFrom ·) := by kernel_rfl
theorem k_wk : Rows.fnObjectCompMatchesModelRow.wideKeys = (Tryz.f3.params.toList ++ (OpenSpec.ofChange Rows.fnObjectCompMatchesModelSpec).bare.plain.varTypes Tryz.prog ++ Tryz.f3.resultTypes.toList).any (Tryz.prog.wideKeysFrom ·) := by kernel_rfl
theorem k_va : ((OpenSpec.ofChange Rows.fnObjectCompMatchesModelSpec).vars.all fun n => Tryz.prog.varReadable n) = true := by kernel_rfl
theorem k_fu : (Tryz.f3.params.toList.all fun t => !Tryz.prog.wantsStandIn t) = true := by kernel_rfl
theorem k_go : false = Rows.fnObjectCompMatchesModelRow.goesBy Tryz.prog := by kernel_rfl
theorem k_h4 : (Tryz.f3.resultTypes.toList.all fun t => Tryz.prog.readableRec t && decide (t < Tryz.prog.types.size)) = true := by kernel_rfl
theorem k_h6 : Rows.fnObjectCompMatchesModelRow.ifacesOut = Tryz.f3.resultTypes.toList.any (Tryz.prog.ifacesRec ·) := by kernel_rfl
theorem k_h7 : Rows.fnObjectCompMatchesModelRow.loopsOut = Tryz.f3.resultTypes.toList.any (Tryz.prog.loopsFrom ·) := by kernel_rfl
theorem k_h9 : Rows.fnObjectCompMatchesModelRow.pinned = Rows.fnObjectCompMatchesModelRow.pinnedBy := by kernel_rfl
theorem k_v1 : Rows.fnObjectCompMatchesModelRow.veiled = (Tryz.f3.params.toList ++ (OpenSpec.ofChange Rows.fnObjectCompMatchesModelSpec).bare.plain.varTypes Tryz.prog ++ Tryz.f3.resultTypes.toList).any (Tryz.prog.veiledRec ·) := by kernel_rfl
theorem k_v2 : Rows.fnObjectCompMatchesModelRow.veiledFits Tryz.prog Tryz.f3.params.toList (Tryz.f3.params.toList ++ (OpenSpec.ofChange Rows.fnObjectCompMatchesModelSpec).bare.plain.varTypes Tryz.prog ++ Tryz.f3.resultTypes.toList) = true := by kernel_rfl

theorem over : Claim7.holds Tryz.pinned (.plain (OpenSpec.ofChange Rows.fnObjectCompMatchesModelSpec)) Rows.fnObjectCompMatchesModelCard :=
  Claim7.holds_of_told_any 3 Tryz.f3 "fmt.Sprintf" [] [] _ _ _ k_wf rfl rfl rfl F_laid F_maps rfl ⟨rfl, rfl, rfl, rfl, rfl, rfl, rfl⟩ rfl rfl k_tie k_fn Tryz.func3 k_r
    (of_decide_eq_true (by kernel_rfl)) (by unfold Func.isWrapper; first | (rw [if_pos (by decide +kernel)]; kernel_rfl) | (rw [if_neg (by decide +kernel)]; exact ⟨rfl, rfl⟩)) F_stops.symm rfl F_knobs.symm F_env
    k_in k_op k_rc k_vs k_mp k_if k_mo k_lo k_wk rfl k_va rfl rfl
    rfl rfl
    rfl F_main F_looks k_fu (by decide) k_go
    (OpenClaim.moreEntering_of F_enter k_h4 F_heard k_h6 k_h7 (by kernel_rfl) k_h9 F_keys F_lift F_make)
    ⟨_, WideRow.started_initial, F_quiet _⟩
    (fun os started _ H enc _ => lifted os started H enc) ⟨k_v1, k_v2⟩

theorem proved : Rows.FnObjectCompMatchesModelToldSaid := over
#print axioms proved
end Go.Proofs.YtgdipdbmllkckaaGreatFmt.fnObjectCompMatchesModel
