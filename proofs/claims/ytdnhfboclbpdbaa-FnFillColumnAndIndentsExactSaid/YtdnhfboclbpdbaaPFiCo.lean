/- The law FnFillColumnAndIndentsExact returns true at every input and leaves its arguments as they were; no condition. The walk is in YtdnhfboclbpdbaaFiCo. -/
import Derived.Test.YtdnhfboclbpdbaaRows
import Derived.Test.YtdnhfboclbpdbaaFiCo
import Derived.Test.YtdnhfboclbpdbaaFacts
import Derived.WalkKit
import Derived.ProofKit
import Derived.OpenShut
import Derived.ShutString
import Derived.ChangeOld
import Derived.Below
namespace Go.Proofs.Ytdnhfboclbpdbaa.fnFillColumnAndIndentsExact
open Go.ChangeShapes Go.WideShapes Go.ChangeAt Go.RowKit
open Go.ChangeMaps (open_string shut_string)
set_option linter.unusedVariables false

theorem own : ownKnob Try.prog.godebug = none := by kernel_rfl
theorem laidOut : laidOutB Try.prog = true := fact2

set_option maxRecDepth 100000 in
theorem lifted (os : Os) (started : os.Started) (H : Type) (enc : TypeId × Value → H) :
    ReturnsInHanded {} Try.checked os 12 .any (Rows.fnFillColumnAndIndentsExactSpec.pre6 enc Try.prog Try.f12 Rows.fnFillColumnAndIndentsExactRow.domain false) (Rows.fnFillColumnAndIndentsExactSpec.post enc Try.prog Try.f12 false true false false) := by
  refine returnsInHanded_of_change (C := Try.checked) own started (by kernel_rfl) Try.func12
    (ChangeSpec.witness6 (enc := enc) (C := Try.checked) false ⟨#[], #[.slice none 0 0, .slice none 0 0, .slice none 0 0, .int .i64 0, .bool false, .bool false, .int .i64 0], []⟩ 8 (by kernel_rfl) (by kernel_rfl) (by kernel_rfl) (by kernel_rfl)) ?_
  intro W base args ds gs before hval0 hW hcnd _
  have hval : ∀ (j : Nat) t v, Try.f12.params[j]? = some t → args[j]? = some v → Value.okWide Try.prog W .any base t v := hval0
  have hW' := hW
  obtain ⟨p, q, hA0, hV, rfl, hfz, hnd⟩ := hW
  have hA : DataW.TrodAll enc Try.prog W 0 (fun _ => true) true Try.f12.params.toList args.toList ds p := hA0
  rw [Try.params12] at hA hval
  obtain ⟨v0, vs0, d0, ds0, p0, q0, hargs, rfl, rfl, h0, r0⟩ := trodAll_cons hA
  obtain ⟨v1, vs1, d1, ds1, p1, q1, rfl, rfl, rfl, h1, r1⟩ := trodAll_cons r0
  obtain ⟨v2, vs2, d2, ds2, p2, q2, rfl, rfl, rfl, h2, r2⟩ := trodAll_cons r1
  obtain ⟨v3, vs3, d3, ds3, p3, q3, rfl, rfl, rfl, h3, r3⟩ := trodAll_cons r2
  obtain ⟨v4, vs4, d4, ds4, p4, q4, rfl, rfl, rfl, h4, r4⟩ := trodAll_cons r3
  obtain ⟨v5, vs5, d5, ds5, p5, q5, rfl, rfl, rfl, h5, r5⟩ := trodAll_cons r4
  obtain ⟨v6, vs6, d6, ds6, p6, q6, rfl, rfl, rfl, h6, r6⟩ := trodAll_cons r5
  obtain ⟨rfl, rfl, rfl⟩ := trodAll_nil r6
  obtain rfl : args = #[v0, v1, v2, v3, v4, v5, v6] := by cases args; simp_all
  obtain ⟨rfl, rfl⟩ := trodVars_none hV
  obtain ⟨a0, len0, cap0, rfl⟩ := okWide_slice Try.underlying22 (hval 0 22 v0 rfl rfl)
  have k0 := h0
  have lt0 : ∀ x ∈ p0, x.block < W.heap.size := by obtain ⟨m, hm⟩ := k0; exact DataW.trod_lt m _ _ _ hm
  obtain ⟨z0, w0⟩ : ∃ zs, IsRow .i64 W a0 len0 cap0 zs := by
    obtain ⟨fuel, hf⟩ := h0
    rcases open_ints Try.underlying22 Try.underlying3 (by kernel_rfl) hf with ⟨hcs, _⟩ | ⟨x, l, c, zs, hcs, _, hl, hm, hz, _, hcell, hwz⟩
    · simp [Value.cells] at hcs
      obtain ⟨rfl, rfl, rfl⟩ := hcs
      exact ⟨[], .inl ⟨rfl, rfl, rfl, rfl⟩⟩
    · simp [Value.cells] at hcs
      obtain ⟨rfl, rfl, rfl⟩ := hcs
      exact ⟨zs, .inr ⟨_, rfl, hl, hm, by simpa using hz, hcell, hwz⟩⟩
  obtain ⟨a1, len1, cap1, rfl⟩ := okWide_slice Try.underlying22 (hval 1 22 v1 rfl rfl)
  have k1 := h1
  have lt1 : ∀ x ∈ p1, x.block < W.heap.size := by obtain ⟨m, hm⟩ := k1; exact DataW.trod_lt m _ _ _ hm
  obtain ⟨z1, w1⟩ : ∃ zs, IsRow .i64 W a1 len1 cap1 zs := by
    obtain ⟨fuel, hf⟩ := h1
    rcases open_ints Try.underlying22 Try.underlying3 (by kernel_rfl) hf with ⟨hcs, _⟩ | ⟨x, l, c, zs, hcs, _, hl, hm, hz, _, hcell, hwz⟩
    · simp [Value.cells] at hcs
      obtain ⟨rfl, rfl, rfl⟩ := hcs
      exact ⟨[], .inl ⟨rfl, rfl, rfl, rfl⟩⟩
    · simp [Value.cells] at hcs
      obtain ⟨rfl, rfl, rfl⟩ := hcs
      exact ⟨zs, .inr ⟨_, rfl, hl, hm, by simpa using hz, hcell, hwz⟩⟩
  obtain ⟨a2, len2, cap2, rfl⟩ := okWide_slice Try.underlying44 (hval 2 44 v2 rfl rfl)
  have k2 := h2
  have lt2 : ∀ x ∈ p2, x.block < W.heap.size := by obtain ⟨m, hm⟩ := k2; exact DataW.trod_lt m _ _ _ hm
  obtain ⟨fuel2, hf2⟩ := h2
  obtain ⟨z2, w2⟩ := open_strs hf2
  obtain ⟨a3, rfl, rfl, rfl, w3⟩ := open_int Try.underlying3 (hval 3 3 v3 rfl rfl) h3
  obtain ⟨a4, rfl, rfl, rfl⟩ := open_bool Try.underlying4 (hval 4 4 v4 rfl rfl) h4
  obtain ⟨a5, rfl, rfl, rfl⟩ := open_bool Try.underlying4 (hval 5 4 v5 rfl rfl) h5
  obtain ⟨a6, rfl, rfl, rfl, w6⟩ := open_int Try.underlying3 (hval 6 3 v6 rfl rfl) h6
  clear hA0 hval0
  refine (walk a0 len0 cap0 z0 a1 len1 cap1 z1 a2 len2 cap2 z2 a3 a4 a5 a6 W w0 w1 w2 w3 w6).mono fun e W' ⟨he, bel⟩ => ?_
  subst he
  exact ⟨_, rfl, _, _, _, [], _, [], hW', trodAll_mk1 (shut_bool Try.underlying4 _), (trodAll_cons_mk (Below.trod laidOut (by kernel_rfl) (of_decide_eq_true (by kernel_rfl)) k0 bel lt0) (trodAll_cons_mk (Below.trod laidOut (by kernel_rfl) (of_decide_eq_true (by kernel_rfl)) k1 bel lt1) (trodAll_cons_mk (Below.trod laidOut (by kernel_rfl) (of_decide_eq_true (by kernel_rfl)) k2 bel lt2) (trodAll_cons_mk (shut_int Try.underlying3 w3) (trodAll_cons_mk (shut_bool Try.underlying4 _) (trodAll_cons_mk (shut_bool Try.underlying4 _) (trodAll_cons_mk (shut_int Try.underlying3 w6) trodAll_mk0))))))), rfl, bel.frame _, fun h => by cases h⟩

theorem k1 : Rows.fnFillColumnAndIndentsExactRow.wf (OpenSpec.ofChange Rows.fnFillColumnAndIndentsExactSpec) = true := by kernel_rfl
theorem k2 : laidOutB Try.prog = true := fact2
theorem k3 : mapsRowed Try.prog = true := fact3
theorem k4 : Try.f12.params.all (Try.prog.readableRec ·) = true := by kernel_rfl
theorem k5 : namedTie Try.prog Rows.fnFillColumnAndIndentsExactRow.named Rows.fnFillColumnAndIndentsExactSpec.vars = true := by kernel_rfl
theorem k6 : (Rows.fnFillColumnAndIndentsExactRow.stops == []) = true := by kernel_rfl
theorem k7 : (Try.prog.stops == []) = true := fact7
theorem k8 : (Rows.fnFillColumnAndIndentsExactRow.knobs == []) = true := by kernel_rfl
theorem k9 : (Try.prog.stopKnobs == []) = true := fact9
theorem k10 : (Rows.fnFillColumnAndIndentsExactRow.inPlace == Try.prog.inPlace 12) = true := by kernel_rfl
theorem k11 : (Rows.fnFillColumnAndIndentsExactRow.unfollowed == Try.prog.unfollowed 12) = true := by kernel_rfl
theorem k12 : (Rows.fnFillColumnAndIndentsExactRow.recurses == Try.prog.recurses 12) = true := by kernel_rfl
theorem k13 : (Rows.fnFillColumnAndIndentsExactRow.named == Try.prog.varsNamed 12) = true := by kernel_rfl
theorem k14 : (Rows.fnFillColumnAndIndentsExactRow.maps == (Try.f12.params.toList ++ Rows.fnFillColumnAndIndentsExactSpec.plain.varTypes Try.prog).any (Try.prog.mapsRec ·)) = true := by kernel_rfl
theorem k15 : (Rows.fnFillColumnAndIndentsExactRow.ifaces == (Try.f12.params.toList ++ Rows.fnFillColumnAndIndentsExactSpec.plain.varTypes Try.prog).any (Try.prog.ifacesRec ·)) = true := by kernel_rfl
theorem k16 : (Rows.fnFillColumnAndIndentsExactRow.mapsOut == Try.prog.mapsAmong Try.f12.resultTypes.toList) = true := by kernel_rfl
theorem k17 : (Rows.fnFillColumnAndIndentsExactRow.loops == (Try.f12.params.toList ++ Rows.fnFillColumnAndIndentsExactSpec.plain.varTypes Try.prog).any (Try.prog.loopsFrom ·)) = true := by kernel_rfl
theorem k18 : (Rows.fnFillColumnAndIndentsExactRow.wideKeys == (Try.f12.params.toList ++ Rows.fnFillColumnAndIndentsExactSpec.plain.varTypes Try.prog ++ Try.f12.resultTypes.toList).any (Try.prog.wideKeysFrom ·)) = true := by kernel_rfl
theorem k19 : Rows.fnFillColumnAndIndentsExactSpec.vars.all (Try.prog.varReadable ·) = true := by kernel_rfl
theorem k20 : Try.f12.resultTypes.all (fun t => Try.prog.readableRec t && decide (t < Try.prog.types.size)) = true := by kernel_rfl
theorem k21 : (Rows.fnFillColumnAndIndentsExactRow.ifacesOut == Try.f12.resultTypes.toList.any (Try.prog.ifacesRec ·)) = true := by kernel_rfl
theorem k22 : (Rows.fnFillColumnAndIndentsExactRow.loopsOut == Try.f12.resultTypes.toList.any (Try.prog.loopsFrom ·)) = true := by kernel_rfl
theorem k23 : (Rows.fnFillColumnAndIndentsExactRow.plainKeys == Try.prog.plainKeys) = true := fact23
theorem k24 : Rows.fnFillColumnAndIndentsExactRow.shortTexts.isNone = true := by kernel_rfl
theorem k25 : Try.prog.stopsHeard = true := fact25
theorem k26 : Try.prog.mayEnter = true := fact26
theorem k27 : (Rows.fnFillColumnAndIndentsExactRow.lifted == Try.prog.liftsFinal) = true := fact27
theorem k28 : (Try.prog.make == some Rows.fnFillColumnAndIndentsExactRow.make) = true := fact28
theorem k29 : (Rows.fnFillColumnAndIndentsExactRow.kinds == (if Rows.fnFillColumnAndIndentsExactRow.domain.isEmpty then [] else Try.f12.params.toList.map fun t => match Try.prog.underlying t with | some (.int k) => some k | _ => none)) = true := by kernel_rfl
theorem k30 : (Rows.fnFillColumnAndIndentsExactRow.pinned == Rows.fnFillColumnAndIndentsExactRow.pinnedBy) = true := by kernel_rfl
theorem k31 : (Rows.fnFillColumnAndIndentsExactRow.veiled == (Try.f12.params.toList ++ Rows.fnFillColumnAndIndentsExactSpec.plain.varTypes Try.prog ++ Try.f12.resultTypes.toList).any (Try.prog.veiledRec ·)) = true := by kernel_rfl
theorem k32 : Rows.fnFillColumnAndIndentsExactRow.veiledFits Try.prog Try.f12.params.toList (Try.f12.params.toList ++ Rows.fnFillColumnAndIndentsExactSpec.plain.varTypes Try.prog ++ Try.f12.resultTypes.toList) = true := by kernel_rfl
set_option maxRecDepth 100000 in
theorem closed : joinedFacts Try.prog 12 Try.f12 Rows.fnFillColumnAndIndentsExactSpec Rows.fnFillColumnAndIndentsExactRow = true := by
  unfold joinedFacts
  exact fact_and (fact_and (fact_and (fact_and (fact_and (fact_and (fact_and (fact_and (fact_and (fact_and (fact_and (fact_and (fact_and (fact_and (fact_and (fact_and (fact_and (fact_and (fact_and (fact_and (fact_and (fact_and (fact_and (fact_and (fact_and (fact_and (fact_and (fact_and (fact_and (fact_and (fact_and (k1) k2) k3) k4) k5) k6) k7) k8) k9) k10) k11) k12) k13) k14) k15) k16) k17) k18) k19) k20) k21) k22) k23) k24) k25) k26) k27) k28) k29) k30) k31) k32

theorem over : Rows.fnFillColumnAndIndentsExactRow.holds Try.pinned (OpenSpec.ofChange Rows.fnFillColumnAndIndentsExactSpec) :=
  OpenClaim.holds_of_wide 12 Try.f12 rfl rfl rfl rfl rfl rfl rfl ⟨rfl, rfl, rfl, rfl, rfl⟩ rfl rfl rfl rfl rfl (by kernel_rfl) Try.func12 closed
    (of_decide_eq_true (by kernel_rfl)) (by unfold Func.isWrapper; first | (rw [if_pos (by decide +kernel)]; kernel_rfl) | (rw [if_neg (by decide +kernel)]; exact ⟨rfl, rfl⟩))
    (fun os started H enc _ => lifted os started H enc)

theorem proved : Rows.FnFillColumnAndIndentsExactSaid := over
#print axioms proved
end Go.Proofs.Ytdnhfboclbpdbaa.fnFillColumnAndIndentsExact
