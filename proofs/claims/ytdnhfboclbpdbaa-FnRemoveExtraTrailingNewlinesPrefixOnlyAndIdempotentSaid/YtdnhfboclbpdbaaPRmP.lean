/- The law FnRemoveExtraTrailingNewlinesPrefixOnlyAndIdempotent returns true at every input and leaves its arguments as they were; no condition. The walk is in YtdnhfboclbpdbaaRmP. -/
import Derived.Test.YtdnhfboclbpdbaaRows
import Derived.Test.YtdnhfboclbpdbaaRmP
import Derived.Test.YtdnhfboclbpdbaaFacts
import Derived.WalkKit
import Derived.ProofKit
import Derived.OpenShut
import Derived.ShutString
import Derived.ChangeOld
import Derived.Below
namespace Go.Proofs.Ytdnhfboclbpdbaa.fnRemoveExtraTrailingNewlinesPrefixOnlyAndIdempotent
open Go.ChangeShapes Go.WideShapes Go.ChangeAt Go.RowKit
open Go.ChangeMaps (open_string shut_string)
set_option linter.unusedVariables false

theorem own : ownKnob Try.prog.godebug = none := by kernel_rfl
theorem laidOut : laidOutB Try.prog = true := fact2

set_option maxRecDepth 100000 in
theorem lifted (os : Os) (started : os.Started) (H : Type) (enc : TypeId × Value → H) :
    ReturnsInHanded {} Try.checked os 10 .any (Rows.fnRemoveExtraTrailingNewlinesPrefixOnlyAndIdempotentSpec.pre6 enc Try.prog Try.f10 Rows.fnRemoveExtraTrailingNewlinesPrefixOnlyAndIdempotentRow.domain false) (Rows.fnRemoveExtraTrailingNewlinesPrefixOnlyAndIdempotentSpec.post enc Try.prog Try.f10 false true false false) := by
  refine returnsInHanded_of_change (C := Try.checked) own started (by kernel_rfl) Try.func10
    (ChangeSpec.witness6 (enc := enc) (C := Try.checked) false ⟨#[], #[.slice none 0 0, .int .i64 0], []⟩ 8 (by kernel_rfl) (by kernel_rfl) (by kernel_rfl) (by kernel_rfl)) ?_
  intro W base args ds gs before hval0 hW hcnd _
  have hval : ∀ (j : Nat) t v, Try.f10.params[j]? = some t → args[j]? = some v → Value.okWide Try.prog W .any base t v := hval0
  have hW' := hW
  obtain ⟨p, q, hA0, hV, rfl, hfz, hnd⟩ := hW
  have hA : DataW.TrodAll enc Try.prog W 0 (fun _ => true) true Try.f10.params.toList args.toList ds p := hA0
  rw [Try.params10] at hA hval
  obtain ⟨v0, vs0, d0, ds0, p0, q0, hargs, rfl, rfl, h0, r0⟩ := trodAll_cons hA
  obtain ⟨v1, vs1, d1, ds1, p1, q1, rfl, rfl, rfl, h1, r1⟩ := trodAll_cons r0
  obtain ⟨rfl, rfl, rfl⟩ := trodAll_nil r1
  obtain rfl : args = #[v0, v1] := by cases args; simp_all
  obtain ⟨rfl, rfl⟩ := trodVars_none hV
  obtain ⟨a0, len0, cap0, rfl⟩ := okWide_slice Try.underlying38 (hval 0 38 v0 rfl rfl)
  have k0 := h0
  have lt0 : ∀ x ∈ p0, x.block < W.heap.size := by obtain ⟨m, hm⟩ := k0; exact DataW.trod_lt m _ _ _ hm
  obtain ⟨fuel0, hf0⟩ := h0
  obtain ⟨z0, w0⟩ := open_cels hf0
  obtain ⟨a1, rfl, rfl, rfl, w1⟩ := open_int Try.underlying3 (hval 1 3 v1 rfl rfl) h1
  clear hA0 hval0
  refine (walk a0 len0 cap0 z0 a1 W w0 w1).mono fun e W' ⟨he, bel⟩ => ?_
  subst he
  exact ⟨_, rfl, _, _, _, [], _, [], hW', trodAll_mk1 (shut_bool Try.underlying4 _), (trodAll_cons_mk (Below.trod laidOut (by kernel_rfl) (of_decide_eq_true (by kernel_rfl)) k0 bel lt0) (trodAll_cons_mk (shut_int Try.underlying3 w1) trodAll_mk0)), rfl, bel.frame _, fun h => by cases h⟩

theorem k1 : Rows.fnRemoveExtraTrailingNewlinesPrefixOnlyAndIdempotentRow.wf (OpenSpec.ofChange Rows.fnRemoveExtraTrailingNewlinesPrefixOnlyAndIdempotentSpec) = true := by kernel_rfl
theorem k2 : laidOutB Try.prog = true := fact2
theorem k3 : mapsRowed Try.prog = true := fact3
theorem k4 : Try.f10.params.all (Try.prog.readableRec ·) = true := by kernel_rfl
theorem k5 : namedTie Try.prog Rows.fnRemoveExtraTrailingNewlinesPrefixOnlyAndIdempotentRow.named Rows.fnRemoveExtraTrailingNewlinesPrefixOnlyAndIdempotentSpec.vars = true := by kernel_rfl
theorem k6 : (Rows.fnRemoveExtraTrailingNewlinesPrefixOnlyAndIdempotentRow.stops == []) = true := by kernel_rfl
theorem k7 : (Try.prog.stops == []) = true := fact7
theorem k8 : (Rows.fnRemoveExtraTrailingNewlinesPrefixOnlyAndIdempotentRow.knobs == []) = true := by kernel_rfl
theorem k9 : (Try.prog.stopKnobs == []) = true := fact9
theorem k10 : (Rows.fnRemoveExtraTrailingNewlinesPrefixOnlyAndIdempotentRow.inPlace == Try.prog.inPlace 10) = true := by kernel_rfl
theorem k11 : (Rows.fnRemoveExtraTrailingNewlinesPrefixOnlyAndIdempotentRow.unfollowed == Try.prog.unfollowed 10) = true := by kernel_rfl
theorem k12 : (Rows.fnRemoveExtraTrailingNewlinesPrefixOnlyAndIdempotentRow.recurses == Try.prog.recurses 10) = true := by kernel_rfl
theorem k13 : (Rows.fnRemoveExtraTrailingNewlinesPrefixOnlyAndIdempotentRow.named == Try.prog.varsNamed 10) = true := by kernel_rfl
theorem k14 : (Rows.fnRemoveExtraTrailingNewlinesPrefixOnlyAndIdempotentRow.maps == (Try.f10.params.toList ++ Rows.fnRemoveExtraTrailingNewlinesPrefixOnlyAndIdempotentSpec.plain.varTypes Try.prog).any (Try.prog.mapsRec ·)) = true := by kernel_rfl
theorem k15 : (Rows.fnRemoveExtraTrailingNewlinesPrefixOnlyAndIdempotentRow.ifaces == (Try.f10.params.toList ++ Rows.fnRemoveExtraTrailingNewlinesPrefixOnlyAndIdempotentSpec.plain.varTypes Try.prog).any (Try.prog.ifacesRec ·)) = true := by kernel_rfl
theorem k16 : (Rows.fnRemoveExtraTrailingNewlinesPrefixOnlyAndIdempotentRow.mapsOut == Try.prog.mapsAmong Try.f10.resultTypes.toList) = true := by kernel_rfl
theorem k17 : (Rows.fnRemoveExtraTrailingNewlinesPrefixOnlyAndIdempotentRow.loops == (Try.f10.params.toList ++ Rows.fnRemoveExtraTrailingNewlinesPrefixOnlyAndIdempotentSpec.plain.varTypes Try.prog).any (Try.prog.loopsFrom ·)) = true := by kernel_rfl
theorem k18 : (Rows.fnRemoveExtraTrailingNewlinesPrefixOnlyAndIdempotentRow.wideKeys == (Try.f10.params.toList ++ Rows.fnRemoveExtraTrailingNewlinesPrefixOnlyAndIdempotentSpec.plain.varTypes Try.prog ++ Try.f10.resultTypes.toList).any (Try.prog.wideKeysFrom ·)) = true := by kernel_rfl
theorem k19 : Rows.fnRemoveExtraTrailingNewlinesPrefixOnlyAndIdempotentSpec.vars.all (Try.prog.varReadable ·) = true := by kernel_rfl
theorem k20 : Try.f10.resultTypes.all (fun t => Try.prog.readableRec t && decide (t < Try.prog.types.size)) = true := by kernel_rfl
theorem k21 : (Rows.fnRemoveExtraTrailingNewlinesPrefixOnlyAndIdempotentRow.ifacesOut == Try.f10.resultTypes.toList.any (Try.prog.ifacesRec ·)) = true := by kernel_rfl
theorem k22 : (Rows.fnRemoveExtraTrailingNewlinesPrefixOnlyAndIdempotentRow.loopsOut == Try.f10.resultTypes.toList.any (Try.prog.loopsFrom ·)) = true := by kernel_rfl
theorem k23 : (Rows.fnRemoveExtraTrailingNewlinesPrefixOnlyAndIdempotentRow.plainKeys == Try.prog.plainKeys) = true := fact23
theorem k24 : Rows.fnRemoveExtraTrailingNewlinesPrefixOnlyAndIdempotentRow.shortTexts.isNone = true := by kernel_rfl
theorem k25 : Try.prog.stopsHeard = true := fact25
theorem k26 : Try.prog.mayEnter = true := fact26
theorem k27 : (Rows.fnRemoveExtraTrailingNewlinesPrefixOnlyAndIdempotentRow.lifted == Try.prog.liftsFinal) = true := fact27
theorem k28 : (Try.prog.make == some Rows.fnRemoveExtraTrailingNewlinesPrefixOnlyAndIdempotentRow.make) = true := fact28
theorem k29 : (Rows.fnRemoveExtraTrailingNewlinesPrefixOnlyAndIdempotentRow.kinds == (if Rows.fnRemoveExtraTrailingNewlinesPrefixOnlyAndIdempotentRow.domain.isEmpty then [] else Try.f10.params.toList.map fun t => match Try.prog.underlying t with | some (.int k) => some k | _ => none)) = true := by kernel_rfl
theorem k30 : (Rows.fnRemoveExtraTrailingNewlinesPrefixOnlyAndIdempotentRow.pinned == Rows.fnRemoveExtraTrailingNewlinesPrefixOnlyAndIdempotentRow.pinnedBy) = true := by kernel_rfl
theorem k31 : (Rows.fnRemoveExtraTrailingNewlinesPrefixOnlyAndIdempotentRow.veiled == (Try.f10.params.toList ++ Rows.fnRemoveExtraTrailingNewlinesPrefixOnlyAndIdempotentSpec.plain.varTypes Try.prog ++ Try.f10.resultTypes.toList).any (Try.prog.veiledRec ·)) = true := by kernel_rfl
theorem k32 : Rows.fnRemoveExtraTrailingNewlinesPrefixOnlyAndIdempotentRow.veiledFits Try.prog Try.f10.params.toList (Try.f10.params.toList ++ Rows.fnRemoveExtraTrailingNewlinesPrefixOnlyAndIdempotentSpec.plain.varTypes Try.prog ++ Try.f10.resultTypes.toList) = true := by kernel_rfl
set_option maxRecDepth 100000 in
theorem closed : joinedFacts Try.prog 10 Try.f10 Rows.fnRemoveExtraTrailingNewlinesPrefixOnlyAndIdempotentSpec Rows.fnRemoveExtraTrailingNewlinesPrefixOnlyAndIdempotentRow = true := by
  unfold joinedFacts
  exact fact_and (fact_and (fact_and (fact_and (fact_and (fact_and (fact_and (fact_and (fact_and (fact_and (fact_and (fact_and (fact_and (fact_and (fact_and (fact_and (fact_and (fact_and (fact_and (fact_and (fact_and (fact_and (fact_and (fact_and (fact_and (fact_and (fact_and (fact_and (fact_and (fact_and (fact_and (k1) k2) k3) k4) k5) k6) k7) k8) k9) k10) k11) k12) k13) k14) k15) k16) k17) k18) k19) k20) k21) k22) k23) k24) k25) k26) k27) k28) k29) k30) k31) k32

theorem over : Rows.fnRemoveExtraTrailingNewlinesPrefixOnlyAndIdempotentRow.holds Try.pinned (OpenSpec.ofChange Rows.fnRemoveExtraTrailingNewlinesPrefixOnlyAndIdempotentSpec) :=
  OpenClaim.holds_of_wide 10 Try.f10 rfl rfl rfl rfl rfl rfl rfl ⟨rfl, rfl, rfl, rfl, rfl⟩ rfl rfl rfl rfl rfl (by kernel_rfl) Try.func10 closed
    (of_decide_eq_true (by kernel_rfl)) (by unfold Func.isWrapper; first | (rw [if_pos (by decide +kernel)]; kernel_rfl) | (rw [if_neg (by decide +kernel)]; exact ⟨rfl, rfl⟩))
    (fun os started H enc _ => lifted os started H enc)

theorem proved : Rows.FnRemoveExtraTrailingNewlinesPrefixOnlyAndIdempotentSaid := over
#print axioms proved
end Go.Proofs.Ytdnhfboclbpdbaa.fnRemoveExtraTrailingNewlinesPrefixOnlyAndIdempotent
