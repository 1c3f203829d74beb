/- The law FnFixNewlinesObjectIdempotent returns true at every input and leaves its arguments as they were; no condition. fmt lies on its road's text and is never reached. The walk is in YtfacfgecnpeceaaFmtGw. -/
import Derived.Test.YtfacfgecnpeceaaFmtRows
import Derived.Test.YtfacfgecnpeceaaFmtCards
import Derived.Test.YtfacfgecnpeceaaFmtGw
import Derived.Test.YtfacfgecnpeceaaFmtFacts
import Derived.WalkKit
import Derived.ProofKit
import Derived.OpenShut
import Derived.ShutString
import Derived.ChangeOld
import Derived.Below
import Derived.Stop.JoinedAt
import Derived.Stop.JoinedTold
import Derived.SevenToldRow
namespace Go.Proofs.YtfacfgecnpeceaaFmt.fnFixNewlinesObjectIdempotent
open Go.ChangeShapes Go.WideShapes Go.ChangeAt Go.RowKit
open Go.ChangeMaps (open_string shut_string)
set_option linter.unusedVariables false

theorem laidOut : laidOutB Tryf.prog = true := F_laid

set_option maxRecDepth 100000 in
theorem lifted (os : Os) (started : os.Started) (H : Type) (enc : TypeId × Value → H) :
    ReturnsInTold none {} Tryf.checked os 3 .any Input.okWide ((OpenSpec.ofChange Rows.fnFixNewlinesObjectIdempotentSpec).preRow enc Tryf.prog Tryf.f3 [] false []) (fun F => ((OpenSpec.ofChange Rows.fnFixNewlinesObjectIdempotentSpec).at F).post enc Tryf.prog Tryf.f3 false true false false) (aloneAtReturn Tryf.prog) nothingAlways := by
  refine returnsInTold_of_row (C := Tryf.checked) (s := (OpenSpec.ofChange Rows.fnFixNewlinesObjectIdempotentSpec)) F_enter F_own started (by kernel_rfl) Tryf.func3
    (OpenSpec.witness_stopped (enc := enc) (C := Tryf.checked) false ⟨#[], #[.slice none 0 0, .slice none 0 0], []⟩ 8 (by kernel_rfl) (by kernel_rfl) (by kernel_rfl) (by kernel_rfl)) ?_
  intro F W base args ds gs before _ hF hval0 hW _ _ _ _ _
  have hval : ∀ (j : Nat) t v, Tryf.f3.params[j]? = some t → args[j]? = some v → Value.okWide Tryf.prog W .any base t v := hval0
  have hW' := hW
  obtain ⟨p, q, hA0, hV, rfl, hfz, hnd⟩ := hW
  have hA : DataW.TrodAll enc Tryf.prog W 0 (fun _ => true) true Tryf.f3.params.toList args.toList ds p := hA0
  rw [Tryf.params3] at hA hval
  obtain ⟨v0, vs0, d0, ds0, p0, q0, hargs, rfl, rfl, h0, r0⟩ := trodAll_cons hA
  obtain ⟨v1, vs1, d1, ds1, p1, q1, rfl, rfl, rfl, h1, r1⟩ := trodAll_cons r0
  obtain ⟨rfl, rfl, rfl⟩ := trodAll_nil r1
  obtain rfl : args = #[v0, v1] := by cases args; simp_all
  obtain ⟨rfl, rfl⟩ := trodVars_none hV
  obtain ⟨a0, len0, cap0, rfl⟩ := okWide_slice Tryf.underlying22 (hval 0 22 v0 rfl rfl)
  have k0 := h0
  have lt0 : ∀ x ∈ p0, x.block < W.heap.size := by obtain ⟨m, hm⟩ := k0; exact DataW.trod_lt m _ _ _ hm
  obtain ⟨fuel0, hf0⟩ := h0
  obtain ⟨z0, w0⟩ := open_gf hf0
  obtain ⟨a1, len1, cap1, rfl⟩ := okWide_slice Tryf.underlying23 (hval 1 23 v1 rfl rfl)
  have k1 := h1
  have lt1 : ∀ x ∈ p1, x.block < W.heap.size := by obtain ⟨m, hm⟩ := k1; exact DataW.trod_lt m _ _ _ hm
  obtain ⟨fuel1, hf1⟩ := h1
  obtain ⟨z1, w1⟩ := open_z hf1
  clear hA0 hval0
  refine (walk a0 len0 cap0 z0 a1 len1 cap1 z1 W w0 w1).mono fun e W' ⟨he, bel⟩ => ?_
  subst he
  exact ⟨_, rfl, _, _, _, [], _, [], hW', trodAll_mk1 (shut_bool Tryf.underlying4 _), (trodAll_cons_mk (Below.trod laidOut (by kernel_rfl) (of_decide_eq_true (by kernel_rfl)) k0 bel lt0) (trodAll_cons_mk (Below.trod laidOut (by kernel_rfl) (of_decide_eq_true (by kernel_rfl)) k1 bel lt1) trodAll_mk0)), rfl, bel.frame _, fun h => by cases h⟩

theorem k_wf : Rows.fnFixNewlinesObjectIdempotentRow.wf (OpenSpec.ofChange Rows.fnFixNewlinesObjectIdempotentSpec) = true := by kernel_rfl
theorem k_tie : namedTie Tryf.prog Rows.fnFixNewlinesObjectIdempotentRow.namedList (OpenSpec.ofChange Rows.fnFixNewlinesObjectIdempotentSpec).vars = true := by kernel_rfl
theorem k_fn : Tryf.prog.funcNamed Rows.fnFixNewlinesObjectIdempotentRow.func = some 3 := by kernel_rfl
theorem k_r : (Tryf.f3.params.toList.all fun t => Tryf.prog.readableRec t) = true := by kernel_rfl
theorem k_in : Rows.fnFixNewlinesObjectIdempotentRow.inPlace = Tryf.prog.inPlace 3 := by kernel_rfl
theorem k_op : Rows.fnFixNewlinesObjectIdempotentRow.unfollowed = Tryf.prog.unfollowed 3 := by kernel_rfl
theorem k_rc : Rows.fnFixNewlinesObjectIdempotentRow.recurses = Tryf.prog.recurses 3 := by kernel_rfl
theorem k_vs : Rows.fnFixNewlinesObjectIdempotentRow.named = Tryf.prog.varsNamed 3 := by kernel_rfl
theorem k_mp : Rows.fnFixNewlinesObjectIdempotentRow.maps = (Tryf.f3.params.toList ++ (OpenSpec.ofChange Rows.fnFixNewlinesObjectIdempotentSpec).bare.plain.varTypes Tryf.prog).any (Tryf.prog.mapsRec ·) := by kernel_rfl
theorem k_if : Rows.fnFixNewlinesObjectIdempotentRow.ifaces = (Tryf.f3.params.toList ++ (OpenSpec.ofChange Rows.fnFixNewlinesObjectIdempotentSpec).bare.plain.varTypes Tryf.prog).any (Tryf.prog.ifacesRec ·) := by kernel_rfl
theorem k_mo : Rows.fnFixNewlinesObjectIdempotentRow.mapsOut = Tryf.prog.mapsAmong Tryf.f3.resultTypes.toList := by kernel_rfl
theorem k_lo : Rows.fnFixNewlinesObjectIdempotentRow.loops = (Tryf.f3.params.toList ++ (OpenSpec.ofChange Rows.fnFixNewlinesObjectIdempotentSpec).bare.plain.varTypes Tryf.prog).any (Tryf.prog.loopsFrom ·) := by kernel_rfl
theorem k_wk : Rows.fnFixNewlinesObjectIdempotentRow.wideKeys = (Tryf.f3.params.toList ++ (OpenSpec.ofChange Rows.fnFixNewlinesObjectIdempotentSpec).bare.plain.varTypes Tryf.prog ++ Tryf.f3.resultTypes.toList).any (Tryf.prog.wideKeysFrom ·) := by kernel_rfl
theorem k_va : ((OpenSpec.ofChange Rows.fnFixNewlinesObjectIdempotentSpec).vars.all fun n => Tryf.prog.varReadable n) = true := by kernel_rfl
theorem k_fu : (Tryf.f3.params.toList.all fun t => !Tryf.prog.wantsStandIn t) = true := by kernel_rfl
theorem k_go : false = Rows.fnFixNewlinesObjectIdempotentRow.goesBy Tryf.prog := by kernel_rfl
theorem k_h4 : (Tryf.f3.resultTypes.toList.all fun t => Tryf.prog.readableRec t && decide (t < Tryf.prog.types.size)) = true := by kernel_rfl
theorem k_h6 : Rows.fnFixNewlinesObjectIdempotentRow.ifacesOut = Tryf.f3.resultTypes.toList.any (Tryf.prog.ifacesRec ·) := by kernel_rfl
theorem k_h7 : Rows.fnFixNewlinesObjectIdempotentRow.loopsOut = Tryf.f3.resultTypes.toList.any (Tryf.prog.loopsFrom ·) := by kernel_rfl
theorem k_h9 : Rows.fnFixNewlinesObjectIdempotentRow.pinned = Rows.fnFixNewlinesObjectIdempotentRow.pinnedBy := by kernel_rfl
theorem k_v1 : Rows.fnFixNewlinesObjectIdempotentRow.veiled = (Tryf.f3.params.toList ++ (OpenSpec.ofChange Rows.fnFixNewlinesObjectIdempotentSpec).bare.plain.varTypes Tryf.prog ++ Tryf.f3.resultTypes.toList).any (Tryf.prog.veiledRec ·) := by kernel_rfl
theorem k_v2 : Rows.fnFixNewlinesObjectIdempotentRow.veiledFits Tryf.prog Tryf.f3.params.toList (Tryf.f3.params.toList ++ (OpenSpec.ofChange Rows.fnFixNewlinesObjectIdempotentSpec).bare.plain.varTypes Tryf.prog ++ Tryf.f3.resultTypes.toList) = true := by kernel_rfl

theorem over : Claim7.holds Tryf.pinned (.plain (OpenSpec.ofChange Rows.fnFixNewlinesObjectIdempotentSpec)) Rows.fnFixNewlinesObjectIdempotentCard :=
  Claim7.holds_of_told_any 3 Tryf.f3 "fmt.Sprintf" [] [] _ _ _ k_wf rfl rfl rfl F_laid F_maps rfl ⟨rfl, rfl, rfl, rfl, rfl, rfl, rfl⟩ rfl rfl k_tie k_fn Tryf.func3 k_r
    (of_decide_eq_true (by kernel_rfl)) (by unfold Func.isWrapper; first | (rw [if_pos (by decide +kernel)]; kernel_rfl) | (rw [if_neg (by decide +kernel)]; exact ⟨rfl, rfl⟩)) F_stops.symm rfl F_knobs.symm F_env
    k_in k_op k_rc k_vs k_mp k_if k_mo k_lo k_wk rfl k_va rfl rfl
    rfl rfl
    rfl F_main F_looks k_fu (by decide) k_go
    (OpenClaim.moreEntering_of F_enter k_h4 F_heard k_h6 k_h7 (by kernel_rfl) k_h9 F_keys F_lift F_make)
    ⟨_, WideRow.started_initial, F_quiet _⟩
    (fun os started _ H enc _ => lifted os started H enc) ⟨k_v1, k_v2⟩

theorem proved : Rows.FnFixNewlinesObjectIdempotentToldSaid := over
#print axioms proved
end Go.Proofs.YtfacfgecnpeceaaFmt.fnFixNewlinesObjectIdempotent
