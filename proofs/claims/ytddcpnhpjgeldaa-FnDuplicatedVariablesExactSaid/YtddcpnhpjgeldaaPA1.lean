/- The law FnDuplicatedVariablesExact returns true at every input and leaves its arguments as they were; no condition. The walk is in YtddcpnhpjgeldaaDE. -/
import Derived.Test.YtddcpnhpjgeldaaRows
import Derived.Test.YtddcpnhpjgeldaaDE
import Derived.Test.YtddcpnhpjgeldaaFacts
import Derived.WalkKit
import Derived.ProofKit
import Derived.OpenShut
import Derived.ShutString
import Derived.ChangeOld
import Derived.Below
namespace Go.Proofs.Ytddcpnhpjgeldaa.fnDuplicatedVariablesExact
open Go.ChangeShapes Go.WideShapes Go.ChangeAt Go.RowKit
open Go.ChangeMaps (open_string shut_string)
set_option linter.unusedVariables false

theorem own : ownKnob Try.prog.godebug = none := by kernel_rfl
theorem laidOut : laidOutB Try.prog = true := fact2

set_option maxRecDepth 100000 in
theorem lifted (os : Os) (started : os.Started) (H : Type) (enc : TypeId × Value → H) :
    ReturnsInHanded {} Try.checked os 4 .any (Rows.fnDuplicatedVariablesExactSpec.pre6 enc Try.prog Try.f4 Rows.fnDuplicatedVariablesExactRow.domain false) (Rows.fnDuplicatedVariablesExactSpec.post enc Try.prog Try.f4 false true false false) := by
  refine returnsInHanded_of_change (C := Try.checked) own started (by kernel_rfl) Try.func4
    (ChangeSpec.witness6 (enc := enc) (C := Try.checked) false ⟨#[], #[.slice none 0 0, .slice none 0 0], []⟩ 8 (by kernel_rfl) (by kernel_rfl) (by kernel_rfl) (by kernel_rfl)) ?_
  intro W base args ds gs before hval0 hW hcnd _
  have hval : ∀ (j : Nat) t v, Try.f4.params[j]? = some t → args[j]? = some v → Value.okWide Try.prog W .any base t v := hval0
  have hW' := hW
  obtain ⟨p, q, hA0, hV, rfl, hfz, hnd⟩ := hW
  have hA : DataW.TrodAll enc Try.prog W 0 (fun _ => true) true Try.f4.params.toList args.toList ds p := hA0
  rw [Try.params4] at hA hval
  obtain ⟨v0, vs0, d0, ds0, p0, q0, hargs, rfl, rfl, h0, r0⟩ := trodAll_cons hA
  obtain ⟨v1, vs1, d1, ds1, p1, q1, rfl, rfl, rfl, h1, r1⟩ := trodAll_cons r0
  obtain ⟨rfl, rfl, rfl⟩ := trodAll_nil r1
  obtain rfl : args = #[v0, v1] := by cases args; simp_all
  obtain ⟨rfl, rfl⟩ := trodVars_none hV
  obtain ⟨a0, len0, cap0, rfl⟩ := okWide_slice Try.underlying23 (hval 0 23 v0 rfl rfl)
  have k0 := h0
  have lt0 : ∀ x ∈ p0, x.block < W.heap.size := by obtain ⟨m, hm⟩ := k0; exact DataW.trod_lt m _ _ _ hm
  obtain ⟨fuel0, hf0⟩ := h0
  obtain ⟨z0, w0⟩ := open_strs hf0
  obtain ⟨a1, len1, cap1, rfl⟩ := okWide_slice Try.underlying23 (hval 1 23 v1 rfl rfl)
  have k1 := h1
  have lt1 : ∀ x ∈ p1, x.block < W.heap.size := by obtain ⟨m, hm⟩ := k1; exact DataW.trod_lt m _ _ _ hm
  obtain ⟨fuel1, hf1⟩ := h1
  obtain ⟨z1, w1⟩ := open_strs hf1
  clear hA0 hval0
  refine (walk a0 len0 cap0 z0 a1 len1 cap1 z1 W w0 w1).mono fun e W' ⟨he, bel⟩ => ?_
  subst he
  exact ⟨_, rfl, _, _, _, [], _, [], hW', trodAll_mk1 (shut_bool Try.underlying4 _), (trodAll_cons_mk (Below.trod laidOut (by kernel_rfl) (of_decide_eq_true (by kernel_rfl)) k0 bel lt0) (trodAll_cons_mk (Below.trod laidOut (by kernel_rfl) (of_decide_eq_true (by kernel_rfl)) k1 bel lt1) trodAll_mk0)), rfl, bel.frame _, fun h => by cases h⟩

theorem k1 : Rows.fnDuplicatedVariablesExactRow.wf (OpenSpec.ofChange Rows.fnDuplicatedVariablesExactSpec) = true := by kernel_rfl
theorem k2 : laidOutB Try.prog = true := fact2
theorem k3 : mapsRowed Try.prog = true := fact3
theorem k4 : Try.f4.params.all (Try.prog.readableRec ·) = true := by kernel_rfl
theorem k5 : namedTie Try.prog Rows.fnDuplicatedVariablesExactRow.named Rows.fnDuplicatedVariablesExactSpec.vars = true := by kernel_rfl
theorem k6 : (Rows.fnDuplicatedVariablesExactRow.stops == []) = true := by kernel_rfl
theorem k7 : (Try.prog.stops == []) = true := fact7
theorem k8 : (Rows.fnDuplicatedVariablesExactRow.knobs == []) = true := by kernel_rfl
theorem k9 : (Try.prog.stopKnobs == []) = true := fact9
theorem k10 : (Rows.fnDuplicatedVariablesExactRow.inPlace == Try.prog.inPlace 4) = true := by kernel_rfl
theorem k11 : (Rows.fnDuplicatedVariablesExactRow.unfollowed == Try.prog.unfollowed 4) = true := by kernel_rfl
theorem k12 : (Rows.fnDuplicatedVariablesExactRow.recurses == Try.prog.recurses 4) = true := by kernel_rfl
theorem k13 : (Rows.fnDuplicatedVariablesExactRow.named == Try.prog.varsNamed 4) = true := by kernel_rfl
theorem k14 : (Rows.fnDuplicatedVariablesExactRow.maps == (Try.f4.params.toList ++ Rows.fnDuplicatedVariablesExactSpec.plain.varTypes Try.prog).any (Try.prog.mapsRec ·)) = true := by kernel_rfl
theorem k15 : (Rows.fnDuplicatedVariablesExactRow.ifaces == (Try.f4.params.toList ++ Rows.fnDuplicatedVariablesExactSpec.plain.varTypes Try.prog).any (Try.prog.ifacesRec ·)) = true := by kernel_rfl
theorem k16 : (Rows.fnDuplicatedVariablesExactRow.mapsOut == Try.prog.mapsAmong Try.f4.resultTypes.toList) = true := by kernel_rfl
theorem k17 : (Rows.fnDuplicatedVariablesExactRow.loops == (Try.f4.params.toList ++ Rows.fnDuplicatedVariablesExactSpec.plain.varTypes Try.prog).any (Try.prog.loopsFrom ·)) = true := by kernel_rfl
theorem k18 : (Rows.fnDuplicatedVariablesExactRow.wideKeys == (Try.f4.params.toList ++ Rows.fnDuplicatedVariablesExactSpec.plain.varTypes Try.prog ++ Try.f4.resultTypes.toList).any (Try.prog.wideKeysFrom ·)) = true := by kernel_rfl
theorem k19 : Rows.fnDuplicatedVariablesExactSpec.vars.all (Try.prog.varReadable ·) = true := by kernel_rfl
theorem k20 : Try.f4.resultTypes.all (fun t => Try.prog.readableRec t && decide (t < Try.prog.types.size)) = true := by kernel_rfl
theorem k21 : (Rows.fnDuplicatedVariablesExactRow.ifacesOut == Try.f4.resultTypes.toList.any (Try.prog.ifacesRec ·)) = true := by kernel_rfl
theorem k22 : (Rows.fnDuplicatedVariablesExactRow.loopsOut == Try.f4.resultTypes.toList.any (Try.prog.loopsFrom ·)) = true := by kernel_rfl
theorem k23 : (Rows.fnDuplicatedVariablesExactRow.plainKeys == Try.prog.plainKeys) = true := fact23
theorem k24 : Rows.fnDuplicatedVariablesExactRow.shortTexts.isNone = true := by kernel_rfl
theorem k25 : Try.prog.stopsHeard = true := fact25
theorem k26 : Try.prog.mayEnter = true := fact26
theorem k27 : (Rows.fnDuplicatedVariablesExactRow.lifted == Try.prog.liftsFinal) = true := fact27
theorem k28 : (Try.prog.make == some Rows.fnDuplicatedVariablesExactRow.make) = true := fact28
theorem k29 : (Rows.fnDuplicatedVariablesExactRow.kinds == (if Rows.fnDuplicatedVariablesExactRow.domain.isEmpty then [] else Try.f4.params.toList.map fun t => match Try.prog.underlying t with | some (.int k) => some k | _ => none)) = true := by kernel_rfl
theorem k30 : (Rows.fnDuplicatedVariablesExactRow.pinned == Rows.fnDuplicatedVariablesExactRow.pinnedBy) = true := by kernel_rfl
theorem k31 : (Rows.fnDuplicatedVariablesExactRow.veiled == (Try.f4.params.toList ++ Rows.fnDuplicatedVariablesExactSpec.plain.varTypes Try.prog ++ Try.f4.resultTypes.toList).any (Try.prog.veiledRec ·)) = true := by kernel_rfl
theorem k32 : Rows.fnDuplicatedVariablesExactRow.veiledFits Try.prog Try.f4.params.toList (Try.f4.params.toList ++ Rows.fnDuplicatedVariablesExactSpec.plain.varTypes Try.prog ++ Try.f4.resultTypes.toList) = true := by kernel_rfl
set_option maxRecDepth 100000 in
theorem closed : joinedFacts Try.prog 4 Try.f4 Rows.fnDuplicatedVariablesExactSpec Rows.fnDuplicatedVariablesExactRow = true := by
  unfold joinedFacts
  exact fact_and (fact_and (fact_and (fact_and (fact_and (fact_and (fact_and (fact_and (fact_and (fact_and (fact_and (fact_and (fact_and (fact_and (fact_and (fact_and (fact_and (fact_and (fact_and (fact_and (fact_and (fact_and (fact_and (fact_and (fact_and (fact_and (fact_and (fact_and (fact_and (fact_and (fact_and (k1) k2) k3) k4) k5) k6) k7) k8) k9) k10) k11) k12) k13) k14) k15) k16) k17) k18) k19) k20) k21) k22) k23) k24) k25) k26) k27) k28) k29) k30) k31) k32

theorem over : Rows.fnDuplicatedVariablesExactRow.holds Try.pinned (OpenSpec.ofChange Rows.fnDuplicatedVariablesExactSpec) :=
  OpenClaim.holds_of_wide 4 Try.f4 rfl rfl rfl rfl rfl rfl rfl ⟨rfl, rfl, rfl, rfl, rfl⟩ rfl rfl rfl rfl rfl (by kernel_rfl) Try.func4 closed
    (of_decide_eq_true (by kernel_rfl)) (by unfold Func.isWrapper; first | (rw [if_pos (by decide +kernel)]; kernel_rfl) | (rw [if_neg (by decide +kernel)]; exact ⟨rfl, rfl⟩))
    (fun os started H enc _ => lifted os started H enc)

theorem proved : Rows.FnDuplicatedVariablesExactSaid := over
#print axioms proved
end Go.Proofs.Ytddcpnhpjgeldaa.fnDuplicatedVariablesExact
