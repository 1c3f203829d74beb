/- The law FnFixParensCollapsesDoubleParensMovingFodder returns true at every input and leaves its arguments as they were; no condition. fmt lies on its road's text and is never reached. The walk is in YtepipmjcfnncdaaFmtPrWX. -/
import Derived.Test.YtepipmjcfnncdaaFmtRows
import Derived.Test.YtepipmjcfnncdaaFmtCards
import Derived.Test.YtepipmjcfnncdaaFmtPrWX
import Derived.Test.YtepipmjcfnncdaaFmtFacts
import Derived.WalkKit
import Derived.ProofKit
import Derived.OpenShut
import Derived.ShutString
import Derived.ChangeOld
import Derived.Below
import Derived.Stop.JoinedAt
import Derived.Stop.JoinedTold
import Derived.SevenToldRow
namespace Go.Proofs.YtepipmjcfnncdaaFmt.fnFixParensCollapsesDoubleParensMovingFodder
open Go.ChangeShapes Go.WideShapes Go.ChangeAt Go.RowKit
open Go.ChangeMaps (open_string shut_string)
set_option linter.unusedVariables false

theorem laidOut : laidOutB Tryf.prog = true := F_laid

set_option maxRecDepth 100000 in
theorem lifted (os : Os) (started : os.Started) (H : Type) (enc : TypeId × Value → H) :
    ReturnsInTold none {} Tryf.checked os 7 .any Input.okWide ((OpenSpec.ofChange Rows.fnFixParensCollapsesDoubleParensMovingFodderSpec).preRow enc Tryf.prog Tryf.f7 [] false []) (fun F => ((OpenSpec.ofChange Rows.fnFixParensCollapsesDoubleParensMovingFodderSpec).at F).post enc Tryf.prog Tryf.f7 false true false false) (aloneAtReturn Tryf.prog) nothingAlways := by
  refine returnsInTold_of_row (C := Tryf.checked) (s := (OpenSpec.ofChange Rows.fnFixParensCollapsesDoubleParensMovingFodderSpec)) F_enter F_own started (by kernel_rfl) Tryf.func7
    (OpenSpec.witness_stopped (enc := enc) (C := Tryf.checked) false ⟨#[], #[.string ByteArray.empty, .slice none 0 0, .slice none 0 0, .slice none 0 0, .slice none 0 0, .slice none 0 0], []⟩ 8 (by kernel_rfl) (by kernel_rfl) (by kernel_rfl) (by kernel_rfl)) ?_
  intro F W base args ds gs before _ hF hval0 hW _ _ _ _ _
  have hval : ∀ (j : Nat) t v, Tryf.f7.params[j]? = some t → args[j]? = some v → Value.okWide Tryf.prog W .any base t v := hval0
  have hW' := hW
  obtain ⟨p, q, hA0, hV, rfl, hfz, hnd⟩ := hW
  have hA : DataW.TrodAll enc Tryf.prog W 0 (fun _ => true) true Tryf.f7.params.toList args.toList ds p := hA0
  rw [Tryf.params7] at hA hval
  obtain ⟨v0, vs0, d0, ds0, p0, q0, hargs, rfl, rfl, h0, r0⟩ := trodAll_cons hA
  obtain ⟨v1, vs1, d1, ds1, p1, q1, rfl, rfl, rfl, h1, r1⟩ := trodAll_cons r0
  obtain ⟨v2, vs2, d2, ds2, p2, q2, rfl, rfl, rfl, h2, r2⟩ := trodAll_cons r1
  obtain ⟨v3, vs3, d3, ds3, p3, q3, rfl, rfl, rfl, h3, r3⟩ := trodAll_cons r2
  obtain ⟨v4, vs4, d4, ds4, p4, q4, rfl, rfl, rfl, h4, r4⟩ := trodAll_cons r3
  obtain ⟨v5, vs5, d5, ds5, p5, q5, rfl, rfl, rfl, h5, r5⟩ := trodAll_cons r4
  obtain ⟨rfl, rfl, rfl⟩ := trodAll_nil r5
  obtain rfl : args = #[v0, v1, v2, v3, v4, v5] := by cases args; simp_all
  obtain ⟨rfl, rfl⟩ := trodVars_none hV
  obtain ⟨a0, rfl, rfl, rfl, w0⟩ := open_string Tryf.underlying9 (hval 0 9 v0 rfl rfl) h0
  obtain ⟨a1, len1, cap1, rfl⟩ := okWide_slice Tryf.underlying117 (hval 1 117 v1 rfl rfl)
  have k1 := h1
  have lt1 : ∀ x ∈ p1, x.block < W.heap.size := by obtain ⟨m, hm⟩ := k1; exact DataW.trod_lt m _ _ _ hm
  obtain ⟨fuel1, hf1⟩ := h1
  obtain ⟨z1, w1⟩ := open_strs hf1
  obtain ⟨a2, len2, cap2, rfl⟩ := okWide_slice Tryf.underlying117 (hval 2 117 v2 rfl rfl)
  have k2 := h2
  have lt2 : ∀ x ∈ p2, x.block < W.heap.size := by obtain ⟨m, hm⟩ := k2; exact DataW.trod_lt m _ _ _ hm
  obtain ⟨fuel2, hf2⟩ := h2
  obtain ⟨z2, w2⟩ := open_strs hf2
  obtain ⟨a3, len3, cap3, rfl⟩ := okWide_slice Tryf.underlying117 (hval 3 117 v3 rfl rfl)
  have k3 := h3
  have lt3 : ∀ x ∈ p3, x.block < W.heap.size := by obtain ⟨m, hm⟩ := k3; exact DataW.trod_lt m _ _ _ hm
  obtain ⟨fuel3, hf3⟩ := h3
  obtain ⟨z3, w3⟩ := open_strs hf3
  obtain ⟨a4, len4, cap4, rfl⟩ := okWide_slice Tryf.underlying117 (hval 4 117 v4 rfl rfl)
  have k4 := h4
  have lt4 : ∀ x ∈ p4, x.block < W.heap.size := by obtain ⟨m, hm⟩ := k4; exact DataW.trod_lt m _ _ _ hm
  obtain ⟨fuel4, hf4⟩ := h4
  obtain ⟨z4, w4⟩ := open_strs hf4
  obtain ⟨a5, len5, cap5, rfl⟩ := okWide_slice Tryf.underlying117 (hval 5 117 v5 rfl rfl)
  have k5 := h5
  have lt5 : ∀ x ∈ p5, x.block < W.heap.size := by obtain ⟨m, hm⟩ := k5; exact DataW.trod_lt m _ _ _ hm
  obtain ⟨fuel5, hf5⟩ := h5
  obtain ⟨z5, w5⟩ := open_strs hf5
  clear hA0 hval0
  refine (walk a0 a1 len1 cap1 z1 a2 len2 cap2 z2 a3 len3 cap3 z3 a4 len4 cap4 z4 a5 len5 cap5 z5 W w0 w1 w2 w3 w4 w5).mono fun e W' ⟨he, bel⟩ => ?_
  subst he
  exact ⟨_, rfl, _, _, _, [], _, [], hW', trodAll_mk1 (shut_bool Tryf.underlying4 _), (trodAll_cons_mk (shut_string Tryf.underlying9 w0) (trodAll_cons_mk (Below.trod laidOut (by kernel_rfl) (of_decide_eq_true (by kernel_rfl)) k1 bel lt1) (trodAll_cons_mk (Below.trod laidOut (by kernel_rfl) (of_decide_eq_true (by kernel_rfl)) k2 bel lt2) (trodAll_cons_mk (Below.trod laidOut (by kernel_rfl) (of_decide_eq_true (by kernel_rfl)) k3 bel lt3) (trodAll_cons_mk (Below.trod laidOut (by kernel_rfl) (of_decide_eq_true (by kernel_rfl)) k4 bel lt4) (trodAll_cons_mk (Below.trod laidOut (by kernel_rfl) (of_decide_eq_true (by kernel_rfl)) k5 bel lt5) trodAll_mk0)))))), rfl, bel.frame _, fun h => by cases h⟩

theorem k_wf : Rows.fnFixParensCollapsesDoubleParensMovingFodderRow.wf (OpenSpec.ofChange Rows.fnFixParensCollapsesDoubleParensMovingFodderSpec) = true := by kernel_rfl
theorem k_tie : namedTie Tryf.prog Rows.fnFixParensCollapsesDoubleParensMovingFodderRow.namedList (OpenSpec.ofChange Rows.fnFixParensCollapsesDoubleParensMovingFodderSpec).vars = true := by kernel_rfl
theorem k_fn : Tryf.prog.funcNamed Rows.fnFixParensCollapsesDoubleParensMovingFodderRow.func = some 7 := by kernel_rfl
theorem k_r : (Tryf.f7.params.toList.all fun t => Tryf.prog.readableRec t) = true := by kernel_rfl
theorem k_in : Rows.fnFixParensCollapsesDoubleParensMovingFodderRow.inPlace = Tryf.prog.inPlace 7 := by kernel_rfl
theorem k_op : Rows.fnFixParensCollapsesDoubleParensMovingFodderRow.unfollowed = Tryf.prog.unfollowed 7 := by kernel_rfl
theorem k_rc : Rows.fnFixParensCollapsesDoubleParensMovingFodderRow.recurses = Tryf.prog.recurses 7 := by kernel_rfl
theorem k_vs : Rows.fnFixParensCollapsesDoubleParensMovingFodderRow.named = Tryf.prog.varsNamed 7 := by kernel_rfl
theorem k_mp : Rows.fnFixParensCollapsesDoubleParensMovingFodderRow.maps = (Tryf.f7.params.toList ++ (OpenSpec.ofChange Rows.fnFixParensCollapsesDoubleParensMovingFodderSpec).bare.plain.varTypes Tryf.prog).any (Tryf.prog.mapsRec ·) := by kernel_rfl
theorem k_if : Rows.fnFixParensCollapsesDoubleParensMovingFodderRow.ifaces = (Tryf.f7.params.toList ++ (OpenSpec.ofChange Rows.fnFixParensCollapsesDoubleParensMovingFodderSpec).bare.plain.varTypes Tryf.prog).any (Tryf.prog.ifacesRec ·) := by kernel_rfl
theorem k_mo : Rows.fnFixParensCollapsesDoubleParensMovingFodderRow.mapsOut = Tryf.prog.mapsAmong Tryf.f7.resultTypes.toList := by kernel_rfl
theorem k_lo : Rows.fnFixParensCollapsesDoubleParensMovingFodderRow.loops = (Tryf.f7.params.toList ++ (OpenSpec.ofChange Rows.fnFixParensCollapsesDoubleParensMovingFodderSpec).bare.plain.varTypes Tryf.prog).any (Tryf.prog.loopsFrom ·) := by kernel_rfl
theorem k_wk : Rows.fnFixParensCollapsesDoubleParensMovingFodderRow.wideKeys = (Tryf.f7.params.toList ++ (OpenSpec.ofChange Rows.fnFixParensCollapsesDoubleParensMovingFodderSpec).bare.plain.varTypes Tryf.prog ++ Tryf.f7.resultTypes.toList).any (Tryf.prog.wideKeysFrom ·) := by kernel_rfl
theorem k_va : ((OpenSpec.ofChange Rows.fnFixParensCollapsesDoubleParensMovingFodderSpec).vars.all fun n => Tryf.prog.varReadable n) = true := by kernel_rfl
theorem k_fu : (Tryf.f7.params.toList.all fun t => !Tryf.prog.wantsStandIn t) = true := by kernel_rfl
theorem k_go : false = Rows.fnFixParensCollapsesDoubleParensMovingFodderRow.goesBy Tryf.prog := by kernel_rfl
theorem k_h4 : (Tryf.f7.resultTypes.toList.all fun t => Tryf.prog.readableRec t && decide (t < Tryf.prog.types.size)) = true := by kernel_rfl
theorem k_h6 : Rows.fnFixParensCollapsesDoubleParensMovingFodderRow.ifacesOut = Tryf.f7.resultTypes.toList.any (Tryf.prog.ifacesRec ·) := by kernel_rfl
theorem k_h7 : Rows.fnFixParensCollapsesDoubleParensMovingFodderRow.loopsOut = Tryf.f7.resultTypes.toList.any (Tryf.prog.loopsFrom ·) := by kernel_rfl
theorem k_h9 : Rows.fnFixParensCollapsesDoubleParensMovingFodderRow.pinned = Rows.fnFixParensCollapsesDoubleParensMovingFodderRow.pinnedBy := by kernel_rfl
theorem k_v1 : Rows.fnFixParensCollapsesDoubleParensMovingFodderRow.veiled = (Tryf.f7.params.toList ++ (OpenSpec.ofChange Rows.fnFixParensCollapsesDoubleParensMovingFodderSpec).bare.plain.varTypes Tryf.prog ++ Tryf.f7.resultTypes.toList).any (Tryf.prog.veiledRec ·) := by kernel_rfl
theorem k_v2 : Rows.fnFixParensCollapsesDoubleParensMovingFodderRow.veiledFits Tryf.prog Tryf.f7.params.toList (Tryf.f7.params.toList ++ (OpenSpec.ofChange Rows.fnFixParensCollapsesDoubleParensMovingFodderSpec).bare.plain.varTypes Tryf.prog ++ Tryf.f7.resultTypes.toList) = true := by kernel_rfl

theorem over : Claim7.holds Tryf.pinned (.plain (OpenSpec.ofChange Rows.fnFixParensCollapsesDoubleParensMovingFodderSpec)) Rows.fnFixParensCollapsesDoubleParensMovingFodderCard :=
  Claim7.holds_of_told_any 7 Tryf.f7 "fmt.Sprintf" [] [] _ _ _ k_wf rfl rfl rfl F_laid F_maps rfl ⟨rfl, rfl, rfl, rfl, rfl, rfl, rfl⟩ rfl rfl k_tie k_fn Tryf.func7 k_r
    (of_decide_eq_true (by kernel_rfl)) (by unfold Func.isWrapper; first | (rw [if_pos (by decide +kernel)]; kernel_rfl) | (rw [if_neg (by decide +kernel)]; exact ⟨rfl, rfl⟩)) F_stops.symm rfl F_knobs.symm F_env
    k_in k_op k_rc k_vs k_mp k_if k_mo k_lo k_wk rfl k_va rfl rfl
    rfl rfl
    rfl F_main F_looks k_fu (by decide) k_go
    (OpenClaim.moreEntering_of F_enter k_h4 F_heard k_h6 k_h7 (by kernel_rfl) k_h9 F_keys F_lift F_make)
    ⟨_, WideRow.started_initial, F_quiet _⟩
    (fun os started _ H enc _ => lifted os started H enc) ⟨k_v1, k_v2⟩

theorem proved : Rows.FnFixParensCollapsesDoubleParensMovingFodderToldSaid := over
#print axioms proved
end Go.Proofs.YtepipmjcfnncdaaFmt.fnFixParensCollapsesDoubleParensMovingFodder
