/- The law FnEnforceCommentStyleHashSlashRoundTrip returns true at every input and leaves its arguments as they were; no condition. The row's frame below was written by the kit's proof-skeleton program; the walk is in YtdnhfboclbpdbaaCSty. -/
import Derived.Test.YtdnhfboclbpdbaaRows
import Derived.Test.YtdnhfboclbpdbaaCSty
import Derived.Test.YtdnhfboclbpdbaaFacts
import Derived.WalkKit
import Derived.ProofKit
import Derived.OpenShut
import Derived.ShutString
namespace Go.Proofs.Ytdnhfboclbpdbaa.fnEnforceCommentStyleHashSlashRoundTrip
open Go.ChangeShapes Go.WideShapes Go.ChangeAt Go.RowKit
open Go.ChangeMaps (open_string shut_string)
set_option linter.unusedVariables false      -- a walk need not use every 'w<i>' (that an integer argument fits its kind)

theorem own : ownKnob Try.prog.godebug = none := by kernel_rfl

/-! ### THE ROW's STEP: WRITTEN OUT: LEAVE IT -/
set_option maxRecDepth 100000 in
theorem lifted (os : Os) (started : os.Started) (H : Type) (enc : TypeId × Value → H) :
    ReturnsInHanded {} Try.checked os 11 .any (Rows.fnEnforceCommentStyleHashSlashRoundTripSpec.pre6 enc Try.prog Try.f11 Rows.fnEnforceCommentStyleHashSlashRoundTripRow.domain false) (Rows.fnEnforceCommentStyleHashSlashRoundTripSpec.post enc Try.prog Try.f11 false true false false) := by
  refine returnsInHanded_of_change (C := Try.checked) own started (by kernel_rfl) Try.func11
    (ChangeSpec.witness6 (enc := enc) (C := Try.checked) false ⟨#[], #[.string ByteArray.empty, .int .i64 0, .bool false], []⟩ 8 (by kernel_rfl) (by kernel_rfl) (by kernel_rfl) (by kernel_rfl)) ?_
  intro W base args ds gs before hval0 hW hcnd _
  have hval : ∀ (j : Nat) t v, Try.f11.params[j]? = some t → args[j]? = some v → Value.okWide Try.prog W .any base t v := hval0
  have hW' := hW
  obtain ⟨p, q, hA0, hV, rfl, hfz, hnd⟩ := hW
  have hA : DataW.TrodAll enc Try.prog W 0 (fun _ => true) true Try.f11.params.toList args.toList ds p := hA0
  rw [Try.params11] at hA hval
  obtain ⟨v0, vs0, d0, ds0, p0, q0, hargs, rfl, rfl, h0, r0⟩ := trodAll_cons hA
  obtain ⟨v1, vs1, d1, ds1, p1, q1, rfl, rfl, rfl, h1, r1⟩ := trodAll_cons r0
  obtain ⟨v2, vs2, d2, ds2, p2, q2, rfl, rfl, rfl, h2, r2⟩ := trodAll_cons r1
  obtain ⟨rfl, rfl, rfl⟩ := trodAll_nil r2
  obtain rfl : args = #[v0, v1, v2] := by cases args; simp_all
  obtain ⟨rfl, rfl⟩ := trodVars_none hV
  obtain ⟨a0, rfl, rfl, rfl, w0⟩ := open_string Try.underlying9 (hval 0 9 v0 rfl rfl) h0
  obtain ⟨a1, rfl, rfl, rfl, w1⟩ := open_int Try.underlying3 (hval 1 3 v1 rfl rfl) h1
  obtain ⟨a2, rfl, rfl, rfl⟩ := open_bool Try.underlying4 (hval 2 4 v2 rfl rfl) h2
  clear hA0 hval0
  simp only [List.append_nil] at hW'
  refine (walk a0 a1 a2 w0 w1 W).mono fun e W' ⟨he, hg⟩ => ?_
  subst he
  exact ⟨_, rfl, post_of_same (pa := []) (pv := []) hW' (fun _ _ _ => (trodAll_cons_mk (shut_bool Try.underlying4 _) trodAll_mk0)) (fun sp _ => (trodAll_cons_mk (shut_string Try.underlying9 w0) (trodAll_cons_mk (shut_int Try.underlying3 w1) (trodAll_cons_mk (shut_bool Try.underlying4 _) trodAll_mk0)))) (fun _ _ => rfl) rfl
    (hg.frame _) hg.2.1 (ok_one (by kernel_rfl) rfl (okWide_bool_mk Try.underlying4 _))⟩

theorem k1 : Rows.fnEnforceCommentStyleHashSlashRoundTripRow.wf (OpenSpec.ofChange Rows.fnEnforceCommentStyleHashSlashRoundTripSpec) = true := by kernel_rfl
theorem k2 : laidOutB Try.prog = true := fact2
theorem k3 : mapsRowed Try.prog = true := fact3
theorem k4 : Try.f11.params.all (Try.prog.readableRec ·) = true := by kernel_rfl
theorem k5 : namedTie Try.prog Rows.fnEnforceCommentStyleHashSlashRoundTripRow.named Rows.fnEnforceCommentStyleHashSlashRoundTripSpec.vars = true := by kernel_rfl
theorem k6 : (Rows.fnEnforceCommentStyleHashSlashRoundTripRow.stops == []) = true := by kernel_rfl
theorem k7 : (Try.prog.stops == []) = true := fact7
theorem k8 : (Rows.fnEnforceCommentStyleHashSlashRoundTripRow.knobs == []) = true := by kernel_rfl
theorem k9 : (Try.prog.stopKnobs == []) = true := fact9
theorem k10 : (Rows.fnEnforceCommentStyleHashSlashRoundTripRow.inPlace == Try.prog.inPlace 11) = true := by kernel_rfl
theorem k11 : (Rows.fnEnforceCommentStyleHashSlashRoundTripRow.unfollowed == Try.prog.unfollowed 11) = true := by kernel_rfl
theorem k12 : (Rows.fnEnforceCommentStyleHashSlashRoundTripRow.recurses == Try.prog.recurses 11) = true := by kernel_rfl
theorem k13 : (Rows.fnEnforceCommentStyleHashSlashRoundTripRow.named == Try.prog.varsNamed 11) = true := by kernel_rfl
theorem k14 : (Rows.fnEnforceCommentStyleHashSlashRoundTripRow.maps == (Try.f11.params.toList ++ Rows.fnEnforceCommentStyleHashSlashRoundTripSpec.plain.varTypes Try.prog).any (Try.prog.mapsRec ·)) = true := by kernel_rfl
theorem k15 : (Rows.fnEnforceCommentStyleHashSlashRoundTripRow.ifaces == (Try.f11.params.toList ++ Rows.fnEnforceCommentStyleHashSlashRoundTripSpec.plain.varTypes Try.prog).any (Try.prog.ifacesRec ·)) = true := by kernel_rfl
theorem k16 : (Rows.fnEnforceCommentStyleHashSlashRoundTripRow.mapsOut == Try.prog.mapsAmong Try.f11.resultTypes.toList) = true := by kernel_rfl
theorem k17 : (Rows.fnEnforceCommentStyleHashSlashRoundTripRow.loops == (Try.f11.params.toList ++ Rows.fnEnforceCommentStyleHashSlashRoundTripSpec.plain.varTypes Try.prog).any (Try.prog.loopsFrom ·)) = true := by kernel_rfl
theorem k18 : (Rows.fnEnforceCommentStyleHashSlashRoundTripRow.wideKeys == (Try.f11.params.toList ++ Rows.fnEnforceCommentStyleHashSlashRoundTripSpec.plain.varTypes Try.prog ++ Try.f11.resultTypes.toList).any (Try.prog.wideKeysFrom ·)) = true := by kernel_rfl
theorem k19 : Rows.fnEnforceCommentStyleHashSlashRoundTripSpec.vars.all (Try.prog.varReadable ·) = true := by kernel_rfl
theorem k20 : Try.f11.resultTypes.all (fun t => Try.prog.readableRec t && decide (t < Try.prog.types.size)) = true := by kernel_rfl
theorem k21 : (Rows.fnEnforceCommentStyleHashSlashRoundTripRow.ifacesOut == Try.f11.resultTypes.toList.any (Try.prog.ifacesRec ·)) = true := by kernel_rfl
theorem k22 : (Rows.fnEnforceCommentStyleHashSlashRoundTripRow.loopsOut == Try.f11.resultTypes.toList.any (Try.prog.loopsFrom ·)) = true := by kernel_rfl
theorem k23 : (Rows.fnEnforceCommentStyleHashSlashRoundTripRow.plainKeys == Try.prog.plainKeys) = true := fact23
theorem k24 : Rows.fnEnforceCommentStyleHashSlashRoundTripRow.shortTexts.isNone = true := by kernel_rfl
theorem k25 : Try.prog.stopsHeard = true := fact25
theorem k26 : Try.prog.mayEnter = true := fact26
theorem k27 : (Rows.fnEnforceCommentStyleHashSlashRoundTripRow.lifted == Try.prog.liftsFinal) = true := fact27
theorem k28 : (Try.prog.make == some Rows.fnEnforceCommentStyleHashSlashRoundTripRow.make) = true := fact28
theorem k29 : (Rows.fnEnforceCommentStyleHashSlashRoundTripRow.kinds == (if Rows.fnEnforceCommentStyleHashSlashRoundTripRow.domain.isEmpty then [] else Try.f11.params.toList.map fun t => match Try.prog.underlying t with | some (.int k) => some k | _ => none)) = true := by kernel_rfl
theorem k30 : (Rows.fnEnforceCommentStyleHashSlashRoundTripRow.pinned == Rows.fnEnforceCommentStyleHashSlashRoundTripRow.pinnedBy) = true := by kernel_rfl
theorem k31 : (Rows.fnEnforceCommentStyleHashSlashRoundTripRow.veiled == (Try.f11.params.toList ++ Rows.fnEnforceCommentStyleHashSlashRoundTripSpec.plain.varTypes Try.prog ++ Try.f11.resultTypes.toList).any (Try.prog.veiledRec ·)) = true := by kernel_rfl
theorem k32 : Rows.fnEnforceCommentStyleHashSlashRoundTripRow.veiledFits Try.prog Try.f11.params.toList (Try.f11.params.toList ++ Rows.fnEnforceCommentStyleHashSlashRoundTripSpec.plain.varTypes Try.prog ++ Try.f11.resultTypes.toList) = true := by kernel_rfl
set_option maxRecDepth 100000 in
theorem closed : joinedFacts Try.prog 11 Try.f11 Rows.fnEnforceCommentStyleHashSlashRoundTripSpec Rows.fnEnforceCommentStyleHashSlashRoundTripRow = true := by
  unfold joinedFacts
  exact fact_and (fact_and (fact_and (fact_and (fact_and (fact_and (fact_and (fact_and (fact_and (fact_and (fact_and (fact_and (fact_and (fact_and (fact_and (fact_and (fact_and (fact_and (fact_and (fact_and (fact_and (fact_and (fact_and (fact_and (fact_and (fact_and (fact_and (fact_and (fact_and (fact_and (fact_and (k1) k2) k3) k4) k5) k6) k7) k8) k9) k10) k11) k12) k13) k14) k15) k16) k17) k18) k19) k20) k21) k22) k23) k24) k25) k26) k27) k28) k29) k30) k31) k32

theorem over : Rows.fnEnforceCommentStyleHashSlashRoundTripRow.holds Try.pinned (OpenSpec.ofChange Rows.fnEnforceCommentStyleHashSlashRoundTripSpec) :=
  OpenClaim.holds_of_wide 11 Try.f11 rfl rfl rfl rfl rfl rfl rfl ⟨rfl, rfl, rfl, rfl, rfl⟩ rfl rfl rfl rfl rfl (by kernel_rfl) Try.func11 closed
    (of_decide_eq_true (by kernel_rfl)) (by unfold Func.isWrapper; first | (rw [if_pos (by decide +kernel)]; kernel_rfl) | (rw [if_neg (by decide +kernel)]; exact ⟨rfl, rfl⟩))
    (fun os started H enc _ => lifted os started H enc)

/-- ████ THE STATEMENT ████ -/
theorem proved : Rows.FnEnforceCommentStyleHashSlashRoundTripSaid :=
  over
#print axioms proved
end Go.Proofs.Ytdnhfboclbpdbaa.fnEnforceCommentStyleHashSlashRoundTrip
