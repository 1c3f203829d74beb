/- The law FnBuildGroupASTSplitComposes returns true at every input and leaves its arguments as they were; no condition. The walk is in YtddcpnhpjgeldaaH5. -/
import Derived.Test.YtddcpnhpjgeldaaRows
import Derived.Test.YtddcpnhpjgeldaaH5
import Derived.Test.YtddcpnhpjgeldaaFacts
import Derived.WalkKit
import Derived.ProofKit
import Derived.OpenShut
import Derived.ShutString
import Derived.ChangeOld
import Derived.Below
namespace Go.Proofs.Ytddcpnhpjgeldaa.fnBuildGroupASTSplitComposes
open Go.ChangeShapes Go.WideShapes Go.ChangeAt Go.RowKit
open Go.ChangeMaps (open_string shut_string)
set_option linter.unusedVariables false

theorem own : ownKnob Try.prog.godebug = none := by kernel_rfl
theorem laidOut : laidOutB Try.prog = true := fact2

set_option maxRecDepth 100000 in
theorem lifted (os : Os) (started : os.Started) (H : Type) (enc : TypeId × Value → H) :
    ReturnsInHanded {} Try.checked os 6 .any (Rows.fnBuildGroupASTSplitComposesSpec.pre6 enc Try.prog Try.f6 Rows.fnBuildGroupASTSplitComposesRow.domain false) (Rows.fnBuildGroupASTSplitComposesSpec.post enc Try.prog Try.f6 false true false false) := by
  refine returnsInHanded_of_change (C := Try.checked) own started (by kernel_rfl) Try.func6
    (ChangeSpec.witness6 (enc := enc) (C := Try.checked) false ⟨#[], #[.slice none 0 0, .slice none 0 0, .slice none 0 0, .int .i64 0], []⟩ 8 (by kernel_rfl) (by kernel_rfl) (by kernel_rfl) (by kernel_rfl)) ?_
  intro W base args ds gs before hval0 hW hcnd _
  have hval : ∀ (j : Nat) t v, Try.f6.params[j]? = some t → args[j]? = some v → Value.okWide Try.prog W .any base t v := hval0
  have hW' := hW
  obtain ⟨p, q, hA0, hV, rfl, hfz, hnd⟩ := hW
  have hA : DataW.TrodAll enc Try.prog W 0 (fun _ => true) true Try.f6.params.toList args.toList ds p := hA0
  rw [Try.params6] at hA hval
  obtain ⟨v0, vs0, d0, ds0, p0, q0, hargs, rfl, rfl, h0, r0⟩ := trodAll_cons hA
  obtain ⟨v1, vs1, d1, ds1, p1, q1, rfl, rfl, rfl, h1, r1⟩ := trodAll_cons r0
  obtain ⟨v2, vs2, d2, ds2, p2, q2, rfl, rfl, rfl, h2, r2⟩ := trodAll_cons r1
  obtain ⟨v3, vs3, d3, ds3, p3, q3, rfl, rfl, rfl, h3, r3⟩ := trodAll_cons r2
  obtain ⟨rfl, rfl, rfl⟩ := trodAll_nil r3
  obtain rfl : args = #[v0, v1, v2, v3] := by cases args; simp_all
  obtain ⟨rfl, rfl⟩ := trodVars_none hV
  obtain ⟨a0, len0, cap0, rfl⟩ := okWide_slice Try.underlying23 (hval 0 23 v0 rfl rfl)
  have k0 := h0
  have lt0 : ∀ x ∈ p0, x.block < W.heap.size := by obtain ⟨m, hm⟩ := k0; exact DataW.trod_lt m _ _ _ hm
  obtain ⟨fuel0, hf0⟩ := h0
  obtain ⟨z0, w0⟩ := open_strs hf0
  obtain ⟨a1, len1, cap1, rfl⟩ := okWide_slice Try.underlying40 (hval 1 40 v1 rfl rfl)
  have k1 := h1
  have lt1 : ∀ x ∈ p1, x.block < W.heap.size := by obtain ⟨m, hm⟩ := k1; exact DataW.trod_lt m _ _ _ hm
  obtain ⟨fuel1, hf1⟩ := h1
  obtain ⟨z1, w1⟩ := open_rows hf1
  obtain ⟨a2, len2, cap2, rfl⟩ := okWide_slice Try.underlying22 (hval 2 22 v2 rfl rfl)
  have k2 := h2
  have lt2 : ∀ x ∈ p2, x.block < W.heap.size := by obtain ⟨m, hm⟩ := k2; exact DataW.trod_lt m _ _ _ hm
  obtain ⟨fuel2, hf2⟩ := h2
  obtain ⟨z2, w2⟩ := open_els hf2
  obtain ⟨a3, rfl, rfl, rfl, w3⟩ := open_int Try.underlying3 (hval 3 3 v3 rfl rfl) h3
  clear hA0 hval0
  refine (walk a0 len0 cap0 z0 a1 len1 cap1 z1 a2 len2 cap2 z2 a3 W w0 w1 w2 w3).mono fun e W' ⟨he, bel⟩ => ?_
  subst he
  exact ⟨_, rfl, _, _, _, [], _, [], hW', trodAll_mk1 (shut_bool Try.underlying4 _), (trodAll_cons_mk (Below.trod laidOut (by kernel_rfl) (of_decide_eq_true (by kernel_rfl)) k0 bel lt0) (trodAll_cons_mk (Below.trod laidOut (by kernel_rfl) (of_decide_eq_true (by kernel_rfl)) k1 bel lt1) (trodAll_cons_mk (Below.trod laidOut (by kernel_rfl) (of_decide_eq_true (by kernel_rfl)) k2 bel lt2) (trodAll_cons_mk (shut_int Try.underlying3 w3) trodAll_mk0)))), rfl, bel.frame _, fun h => by cases h⟩

theorem k1 : Rows.fnBuildGroupASTSplitComposesRow.wf (OpenSpec.ofChange Rows.fnBuildGroupASTSplitComposesSpec) = true := by kernel_rfl
theorem k2 : laidOutB Try.prog = true := fact2
theorem k3 : mapsRowed Try.prog = true := fact3
theorem k4 : Try.f6.params.all (Try.prog.readableRec ·) = true := by kernel_rfl
theorem k5 : namedTie Try.prog Rows.fnBuildGroupASTSplitComposesRow.named Rows.fnBuildGroupASTSplitComposesSpec.vars = true := by kernel_rfl
theorem k6 : (Rows.fnBuildGroupASTSplitComposesRow.stops == []) = true := by kernel_rfl
theorem k7 : (Try.prog.stops == []) = true := fact7
theorem k8 : (Rows.fnBuildGroupASTSplitComposesRow.knobs == []) = true := by kernel_rfl
theorem k9 : (Try.prog.stopKnobs == []) = true := fact9
theorem k10 : (Rows.fnBuildGroupASTSplitComposesRow.inPlace == Try.prog.inPlace 6) = true := by kernel_rfl
theorem k11 : (Rows.fnBuildGroupASTSplitComposesRow.unfollowed == Try.prog.unfollowed 6) = true := by kernel_rfl
theorem k12 : (Rows.fnBuildGroupASTSplitComposesRow.recurses == Try.prog.recurses 6) = true := by kernel_rfl
theorem k13 : (Rows.fnBuildGroupASTSplitComposesRow.named == Try.prog.varsNamed 6) = true := by kernel_rfl
theorem k14 : (Rows.fnBuildGroupASTSplitComposesRow.maps == (Try.f6.params.toList ++ Rows.fnBuildGroupASTSplitComposesSpec.plain.varTypes Try.prog).any (Try.prog.mapsRec ·)) = true := by kernel_rfl
theorem k15 : (Rows.fnBuildGroupASTSplitComposesRow.ifaces == (Try.f6.params.toList ++ Rows.fnBuildGroupASTSplitComposesSpec.plain.varTypes Try.prog).any (Try.prog.ifacesRec ·)) = true := by kernel_rfl
theorem k16 : (Rows.fnBuildGroupASTSplitComposesRow.mapsOut == Try.prog.mapsAmong Try.f6.resultTypes.toList) = true := by kernel_rfl
theorem k17 : (Rows.fnBuildGroupASTSplitComposesRow.loops == (Try.f6.params.toList ++ Rows.fnBuildGroupASTSplitComposesSpec.plain.varTypes Try.prog).any (Try.prog.loopsFrom ·)) = true := by kernel_rfl
theorem k18 : (Rows.fnBuildGroupASTSplitComposesRow.wideKeys == (Try.f6.params.toList ++ Rows.fnBuildGroupASTSplitComposesSpec.plain.varTypes Try.prog ++ Try.f6.resultTypes.toList).any (Try.prog.wideKeysFrom ·)) = true := by kernel_rfl
theorem k19 : Rows.fnBuildGroupASTSplitComposesSpec.vars.all (Try.prog.varReadable ·) = true := by kernel_rfl
theorem k20 : Try.f6.resultTypes.all (fun t => Try.prog.readableRec t && decide (t < Try.prog.types.size)) = true := by kernel_rfl
theorem k21 : (Rows.fnBuildGroupASTSplitComposesRow.ifacesOut == Try.f6.resultTypes.toList.any (Try.prog.ifacesRec ·)) = true := by kernel_rfl
theorem k22 : (Rows.fnBuildGroupASTSplitComposesRow.loopsOut == Try.f6.resultTypes.toList.any (Try.prog.loopsFrom ·)) = true := by kernel_rfl
theorem k23 : (Rows.fnBuildGroupASTSplitComposesRow.plainKeys == Try.prog.plainKeys) = true := fact23
theorem k24 : Rows.fnBuildGroupASTSplitComposesRow.shortTexts.isNone = true := by kernel_rfl
theorem k25 : Try.prog.stopsHeard = true := fact25
theorem k26 : Try.prog.mayEnter = true := fact26
theorem k27 : (Rows.fnBuildGroupASTSplitComposesRow.lifted == Try.prog.liftsFinal) = true := fact27
theorem k28 : (Try.prog.make == some Rows.fnBuildGroupASTSplitComposesRow.make) = true := fact28
theorem k29 : (Rows.fnBuildGroupASTSplitComposesRow.kinds == (if Rows.fnBuildGroupASTSplitComposesRow.domain.isEmpty then [] else Try.f6.params.toList.map fun t => match Try.prog.underlying t with | some (.int k) => some k | _ => none)) = true := by kernel_rfl
theorem k30 : (Rows.fnBuildGroupASTSplitComposesRow.pinned == Rows.fnBuildGroupASTSplitComposesRow.pinnedBy) = true := by kernel_rfl
theorem k31 : (Rows.fnBuildGroupASTSplitComposesRow.veiled == (Try.f6.params.toList ++ Rows.fnBuildGroupASTSplitComposesSpec.plain.varTypes Try.prog ++ Try.f6.resultTypes.toList).any (Try.prog.veiledRec ·)) = true := by kernel_rfl
theorem k32 : Rows.fnBuildGroupASTSplitComposesRow.veiledFits Try.prog Try.f6.params.toList (Try.f6.params.toList ++ Rows.fnBuildGroupASTSplitComposesSpec.plain.varTypes Try.prog ++ Try.f6.resultTypes.toList) = true := by kernel_rfl
set_option maxRecDepth 100000 in
theorem closed : joinedFacts Try.prog 6 Try.f6 Rows.fnBuildGroupASTSplitComposesSpec Rows.fnBuildGroupASTSplitComposesRow = true := by
  unfold joinedFacts
  exact fact_and (fact_and (fact_and (fact_and (fact_and (fact_and (fact_and (fact_and (fact_and (fact_and (fact_and (fact_and (fact_and (fact_and (fact_and (fact_and (fact_and (fact_and (fact_and (fact_and (fact_and (fact_and (fact_and (fact_and (fact_and (fact_and (fact_and (fact_and (fact_and (fact_and (fact_and (k1) k2) k3) k4) k5) k6) k7) k8) k9) k10) k11) k12) k13) k14) k15) k16) k17) k18) k19) k20) k21) k22) k23) k24) k25) k26) k27) k28) k29) k30) k31) k32

theorem over : Rows.fnBuildGroupASTSplitComposesRow.holds Try.pinned (OpenSpec.ofChange Rows.fnBuildGroupASTSplitComposesSpec) :=
  OpenClaim.holds_of_wide 6 Try.f6 rfl rfl rfl rfl rfl rfl rfl ⟨rfl, rfl, rfl, rfl, rfl⟩ rfl rfl rfl rfl rfl (by kernel_rfl) Try.func6 closed
    (of_decide_eq_true (by kernel_rfl)) (by unfold Func.isWrapper; first | (rw [if_pos (by decide +kernel)]; kernel_rfl) | (rw [if_neg (by decide +kernel)]; exact ⟨rfl, rfl⟩))
    (fun os started H enc _ => lifted os started H enc)

theorem proved : Rows.FnBuildGroupASTSplitComposesSaid := over
#print axioms proved
end Go.Proofs.Ytddcpnhpjgeldaa.fnBuildGroupASTSplitComposes
