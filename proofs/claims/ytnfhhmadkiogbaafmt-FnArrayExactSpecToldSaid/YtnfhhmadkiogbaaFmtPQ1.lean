/- The law FnArrayExactSpec returns true at every input and leaves its arguments as they were; no condition. fmt lies on its road's text and is never reached. The walk is in YtnfhhmadkiogbaaFmtAX2. -/
import Derived.Test.YtnfhhmadkiogbaaFmtRows
import Derived.Test.YtnfhhmadkiogbaaFmtCards
import Derived.Test.YtnfhhmadkiogbaaFmtAX2
import Derived.Test.YtnfhhmadkiogbaaFmtFacts
import Derived.WalkKit
import Derived.ProofKit
import Derived.OpenShut
import Derived.ShutString
import Derived.ChangeOld
import Derived.Below
import Derived.Stop.JoinedAt
import Derived.Stop.JoinedTold
import Derived.SevenToldRow
namespace Go.Proofs.YtnfhhmadkiogbaaFmt.fnArrayExactSpec
open Go.ChangeShapes Go.WideShapes Go.ChangeAt Go.RowKit
open Go.ChangeMaps (open_string shut_string)
set_option linter.unusedVariables false

theorem laidOut : laidOutB Tryf.prog = true := F_laid

set_option maxRecDepth 100000 in
theorem lifted (os : Os) (started : os.Started) (H : Type) (enc : TypeId × Value → H) :
    ReturnsInTold none {} Tryf.checked os 3 .any Input.okWide ((OpenSpec.ofChange Rows.fnArrayExactSpecSpec).preRow enc Tryf.prog Tryf.f3 [] false []) (fun F => ((OpenSpec.ofChange Rows.fnArrayExactSpecSpec).at F).post enc Tryf.prog Tryf.f3 false true false false) (aloneAtReturn Tryf.prog) nothingAlways := by
  refine returnsInTold_of_row (C := Tryf.checked) (s := (OpenSpec.ofChange Rows.fnArrayExactSpecSpec)) F_enter F_own started (by kernel_rfl) Tryf.func3
    (OpenSpec.witness_stopped (enc := enc) (C := Tryf.checked) false ⟨#[], #[.int .i64 0, .bool false, .int .i32 0, .slice none 0 0, .slice none 0 0], []⟩ 8 (by kernel_rfl) (by kernel_rfl) (by kernel_rfl) (by kernel_rfl)) ?_
  intro F W base args ds gs before _ hF hval0 hW _ _ _ _ _
  have hval : ∀ (j : Nat) t v, Tryf.f3.params[j]? = some t → args[j]? = some v → Value.okWide Tryf.prog W .any base t v := hval0
  have hW' := hW
  obtain ⟨p, q, hA0, hV, rfl, hfz, hnd⟩ := hW
  have hA : DataW.TrodAll enc Tryf.prog W 0 (fun _ => true) true Tryf.f3.params.toList args.toList ds p := hA0
  rw [Tryf.params3] at hA hval
  obtain ⟨v0, vs0, d0, ds0, p0, q0, hargs, rfl, rfl, h0, r0⟩ := trodAll_cons hA
  obtain ⟨v1, vs1, d1, ds1, p1, q1, rfl, rfl, rfl, h1, r1⟩ := trodAll_cons r0
  obtain ⟨v2, vs2, d2, ds2, p2, q2, rfl, rfl, rfl, h2, r2⟩ := trodAll_cons r1
  obtain ⟨v3, vs3, d3, ds3, p3, q3, rfl, rfl, rfl, h3, r3⟩ := trodAll_cons r2
  obtain ⟨v4, vs4, d4, ds4, p4, q4, rfl, rfl, rfl, h4, r4⟩ := trodAll_cons r3
  obtain ⟨rfl, rfl, rfl⟩ := trodAll_nil r4
  obtain rfl : args = #[v0, v1, v2, v3, v4] := by cases args; simp_all
  obtain ⟨rfl, rfl⟩ := trodVars_none hV
  obtain ⟨a0, rfl, rfl, rfl, w0⟩ := open_int Tryf.underlying3 (hval 0 3 v0 rfl rfl) h0
  obtain ⟨a1, rfl, rfl, rfl⟩ := open_bool Tryf.underlying4 (hval 1 4 v1 rfl rfl) h1
  obtain ⟨a2, rfl, rfl, rfl, w2⟩ := open_int Tryf.underlying21 (hval 2 21 v2 rfl rfl) h2
  obtain ⟨a3, len3, cap3, rfl⟩ := okWide_slice Tryf.underlying22 (hval 3 22 v3 rfl rfl)
  have k3 := h3
  have lt3 : ∀ x ∈ p3, x.block < W.heap.size := by obtain ⟨m, hm⟩ := k3; exact DataW.trod_lt m _ _ _ hm
  obtain ⟨z3, w3⟩ : ∃ zs, IsRow .i32 W a3 len3 cap3 zs := by
    obtain ⟨fuel, hf⟩ := h3
    rcases open_ints Tryf.underlying22 Tryf.underlying21 (by kernel_rfl) hf with ⟨hcs, _⟩ | ⟨x, l, c, zs, hcs, _, hl, hm, hz, _, hcell, hwz⟩
    · simp [Value.cells] at hcs
      obtain ⟨rfl, rfl, rfl⟩ := hcs
      exact ⟨[], .inl ⟨rfl, rfl, rfl, rfl⟩⟩
    · simp [Value.cells] at hcs
      obtain ⟨rfl, rfl, rfl⟩ := hcs
      exact ⟨zs, .inr ⟨_, rfl, hl, hm, by simpa using hz, hcell, hwz⟩⟩
  obtain ⟨a4, len4, cap4, rfl⟩ := okWide_slice Tryf.underlying22 (hval 4 22 v4 rfl rfl)
  have k4 := h4
  have lt4 : ∀ x ∈ p4, x.block < W.heap.size := by obtain ⟨m, hm⟩ := k4; exact DataW.trod_lt m _ _ _ hm
  obtain ⟨z4, w4⟩ : ∃ zs, IsRow .i32 W a4 len4 cap4 zs := by
    obtain ⟨fuel, hf⟩ := h4
    rcases open_ints Tryf.underlying22 Tryf.underlying21 (by kernel_rfl) hf with ⟨hcs, _⟩ | ⟨x, l, c, zs, hcs, _, hl, hm, hz, _, hcell, hwz⟩
    · simp [Value.cells] at hcs
      obtain ⟨rfl, rfl, rfl⟩ := hcs
      exact ⟨[], .inl ⟨rfl, rfl, rfl, rfl⟩⟩
    · simp [Value.cells] at hcs
      obtain ⟨rfl, rfl, rfl⟩ := hcs
      exact ⟨zs, .inr ⟨_, rfl, hl, hm, by simpa using hz, hcell, hwz⟩⟩
  clear hA0 hval0
  refine (walk a0 a1 a2 a3 len3 cap3 z3 a4 len4 cap4 z4 W w0 w2 w3 w4).mono fun e W' ⟨he, bel⟩ => ?_
  subst he
  exact ⟨_, rfl, _, _, _, [], _, [], hW', trodAll_mk1 (shut_bool Tryf.underlying4 _), (trodAll_cons_mk (shut_int Tryf.underlying3 w0) (trodAll_cons_mk (shut_bool Tryf.underlying4 _) (trodAll_cons_mk (shut_int Tryf.underlying21 w2) (trodAll_cons_mk (Below.trod laidOut (by kernel_rfl) (of_decide_eq_true (by kernel_rfl)) k3 bel lt3) (trodAll_cons_mk (Below.trod laidOut (by kernel_rfl) (of_decide_eq_true (by kernel_rfl)) k4 bel lt4) trodAll_mk0))))), rfl, bel.frame _, fun h => by cases h⟩

theorem k_wf : Rows.fnArrayExactSpecRow.wf (OpenSpec.ofChange Rows.fnArrayExactSpecSpec) = true := by kernel_rfl
theorem k_tie : namedTie Tryf.prog Rows.fnArrayExactSpecRow.namedList (OpenSpec.ofChange Rows.fnArrayExactSpecSpec).vars = true := by kernel_rfl
theorem k_fn : Tryf.prog.funcNamed Rows.fnArrayExactSpecRow.func = some 3 := by kernel_rfl
theorem k_r : (Tryf.f3.params.toList.all fun t => Tryf.prog.readableRec t) = true := by kernel_rfl
theorem k_in : Rows.fnArrayExactSpecRow.inPlace = Tryf.prog.inPlace 3 := by kernel_rfl
theorem k_op : Rows.fnArrayExactSpecRow.unfollowed = Tryf.prog.unfollowed 3 := by kernel_rfl
theorem k_rc : Rows.fnArrayExactSpecRow.recurses = Tryf.prog.recurses 3 := by kernel_rfl
theorem k_vs : Rows.fnArrayExactSpecRow.named = Tryf.prog.varsNamed 3 := by kernel_rfl
theorem k_mp : Rows.fnArrayExactSpecRow.maps = (Tryf.f3.params.toList ++ (OpenSpec.ofChange Rows.fnArrayExactSpecSpec).bare.plain.varTypes Tryf.prog).any (Tryf.prog.mapsRec ·) := by kernel_rfl
theorem k_if : Rows.fnArrayExactSpecRow.ifaces = (Tryf.f3.params.toList ++ (OpenSpec.ofChange Rows.fnArrayExactSpecSpec).bare.plain.varTypes Tryf.prog).any (Tryf.prog.ifacesRec ·) := by kernel_rfl
theorem k_mo : Rows.fnArrayExactSpecRow.mapsOut = Tryf.prog.mapsAmong Tryf.f3.resultTypes.toList := by kernel_rfl
theorem k_lo : Rows.fnArrayExactSpecRow.loops = (Tryf.f3.params.toList ++ (OpenSpec.ofChange Rows.fnArrayExactSpecSpec).bare.plain.varTypes Tryf.prog).any (Tryf.prog.loopsFrom ·) := by kernel_rfl
theorem k_wk : Rows.fnArrayExactSpecRow.wideKeys = (Tryf.f3.params.toList ++ (OpenSpec.ofChange Rows.fnArrayExactSpecSpec).bare.plain.varTypes Tryf.prog ++ Tryf.f3.resultTypes.toList).any (Tryf.prog.wideKeysFrom ·) := by kernel_rfl
theorem k_va : ((OpenSpec.ofChange Rows.fnArrayExactSpecSpec).vars.all fun n => Tryf.prog.varReadable n) = true := by kernel_rfl
theorem k_fu : (Tryf.f3.params.toList.all fun t => !Tryf.prog.wantsStandIn t) = true := by kernel_rfl
theorem k_go : false = Rows.fnArrayExactSpecRow.goesBy Tryf.prog := by kernel_rfl
theorem k_h4 : (Tryf.f3.resultTypes.toList.all fun t => Tryf.prog.readableRec t && decide (t < Tryf.prog.types.size)) = true := by kernel_rfl
theorem k_h6 : Rows.fnArrayExactSpecRow.ifacesOut = Tryf.f3.resultTypes.toList.any (Tryf.prog.ifacesRec ·) := by kernel_rfl
theorem k_h7 : Rows.fnArrayExactSpecRow.loopsOut = Tryf.f3.resultTypes.toList.any (Tryf.prog.loopsFrom ·) := by kernel_rfl
theorem k_h9 : Rows.fnArrayExactSpecRow.pinned = Rows.fnArrayExactSpecRow.pinnedBy := by kernel_rfl
theorem k_v1 : Rows.fnArrayExactSpecRow.veiled = (Tryf.f3.params.toList ++ (OpenSpec.ofChange Rows.fnArrayExactSpecSpec).bare.plain.varTypes Tryf.prog ++ Tryf.f3.resultTypes.toList).any (Tryf.prog.veiledRec ·) := by kernel_rfl
theorem k_v2 : Rows.fnArrayExactSpecRow.veiledFits Tryf.prog Tryf.f3.params.toList (Tryf.f3.params.toList ++ (OpenSpec.ofChange Rows.fnArrayExactSpecSpec).bare.plain.varTypes Tryf.prog ++ Tryf.f3.resultTypes.toList) = true := by kernel_rfl

theorem over : Claim7.holds Tryf.pinned (.plain (OpenSpec.ofChange Rows.fnArrayExactSpecSpec)) Rows.fnArrayExactSpecCard :=
  Claim7.holds_of_told_any 3 Tryf.f3 "fmt.Sprintf" [] [] _ _ _ k_wf rfl rfl rfl F_laid F_maps rfl ⟨rfl, rfl, rfl, rfl, rfl, rfl, rfl⟩ rfl rfl k_tie k_fn Tryf.func3 k_r
    (of_decide_eq_true (by kernel_rfl)) (by unfold Func.isWrapper; first | (rw [if_pos (by decide +kernel)]; kernel_rfl) | (rw [if_neg (by decide +kernel)]; exact ⟨rfl, rfl⟩)) F_stops.symm rfl F_knobs.symm F_env
    k_in k_op k_rc k_vs k_mp k_if k_mo k_lo k_wk rfl k_va rfl rfl
    rfl rfl
    rfl F_main F_looks k_fu (by decide) k_go
    (OpenClaim.moreEntering_of F_enter k_h4 F_heard k_h6 k_h7 (by kernel_rfl) k_h9 F_keys F_lift F_make)
    ⟨_, WideRow.started_initial, F_quiet _⟩
    (fun os started _ H enc _ => lifted os started H enc) ⟨k_v1, k_v2⟩

theorem proved : Rows.FnArrayExactSpecToldSaid := over
#print axioms proved
end Go.Proofs.YtnfhhmadkiogbaaFmt.fnArrayExactSpec
