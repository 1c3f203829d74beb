/-
  No cell of these rows narrows 'for every input' (looked for: loops, veiled, ifaces, maps, wideKeys, modest, calm, conditions, laid).
  DERIVED. THE GIVEN ROWS OF THIS SEAT. 5 by the template 'for every input the law returns true; each argument reads behind the call as it read before'; 0 by the template 'total and deterministic' (their statements: YtecldheglbojaaaTotals.lean).
  GIVEN WITH THE SEED: the statements are not yours to turn. If you find one false, say at which input.
  Laid BY PROGRAM, IN A SANDBOX (cutbox-rows.mjs): the forced cells as the released guide's own fill.sh prints them over the translation 2f97e652fa69b2c3… (all of the seat's roots in one cut). By AI agents, Wed Nov 11 2026. No macro, syntax, notation, axiom, sorry.
-/
import Derived.Test.YtecldheglbojaaaChecked
import GoSem.Claim
import GoSem.ClaimJoined
import GoSem.ClaimMapViews
import Derived.JoinedTies
import Derived.KernelRfl
namespace Go.Proofs.Ytecldheglbojaaa
/- THE CELL 'sum', in the pinned program and in every row, IS THE sha256 OF THE DUMP (.gsa) THAT YtecldheglbojaaaProg.lean LOADS. Nothing in Lean hashes anything: it is a label: what it is worth is what the hold of that sum in a sandbox is worth. -/
noncomputable def Try.pinned : Pinned := { name := "ytecldheglbojaaa", sum := "2f97e652fa69b2c363a72e7589236357a8b65225c8a7c5ff7eaa20e821df05d3", checked := Try.checked }
namespace Rows
def none {H : Type} : Left H := { results := [], args := [] }

/-- 'n008_2.FnHasNewLinesAgreesWithContainsNewline': WHATEVER THE INPUT: true; the input reads as it did. -/
def fnHasNewLinesAgreesWithContainsNewlineSpec : ChangeSpec := { name := "fnHasNewLinesAgreesWithContainsNewline", fn := fun _ => fun
  | [d] => { results := [.lit (.bool true)], args := [d] }
  | _ => none }
def fnHasNewLinesAgreesWithContainsNewlineRow : OpenClaim := { program := "ytecldheglbojaaa", sum := "2f97e652fa69b2c363a72e7589236357a8b65225c8a7c5ff7eaa20e821df05d3", func := "github.com/google/go-jsonnet/n008_2.FnHasNewLinesAgreesWithContainsNewline", spec := "fnHasNewLinesAgreesWithContainsNewline", apart := false }
def FnHasNewLinesAgreesWithContainsNewlineSaid : Prop := fnHasNewLinesAgreesWithContainsNewlineRow.holds Try.pinned (OpenSpec.ofChange fnHasNewLinesAgreesWithContainsNewlineSpec)

/-- ITS FALSE NEIGHBOUR: 'it returns false'. Refute it at one input. -/
def fnHasNewLinesAgreesWithContainsNewlineWrong : ChangeSpec := { name := "fnHasNewLinesAgreesWithContainsNewline", fn := fun _ => fun
  | [d] => { results := [.lit (.bool false)], args := [d] }
  | _ => none }
def FnHasNewLinesAgreesWithContainsNewlineWrongFalsely : Prop := fnHasNewLinesAgreesWithContainsNewlineRow.holds Try.pinned (OpenSpec.ofChange fnHasNewLinesAgreesWithContainsNewlineWrong)

/-- 'n008_2.FnSetIndentsKeepsHasNewLines': WHATEVER THE INPUT: true; the input reads as it did. -/
def fnSetIndentsKeepsHasNewLinesSpec : ChangeSpec := { name := "fnSetIndentsKeepsHasNewLines", fn := fun _ => fun
  | [d1, d2, d3] => { results := [.lit (.bool true)], args := [d1, d2, d3] }
  | _ => none }
def fnSetIndentsKeepsHasNewLinesRow : OpenClaim := { program := "ytecldheglbojaaa", sum := "2f97e652fa69b2c363a72e7589236357a8b65225c8a7c5ff7eaa20e821df05d3", func := "github.com/google/go-jsonnet/n008_2.FnSetIndentsKeepsHasNewLines", spec := "fnSetIndentsKeepsHasNewLines", apart := false }
def FnSetIndentsKeepsHasNewLinesSaid : Prop := fnSetIndentsKeepsHasNewLinesRow.holds Try.pinned (OpenSpec.ofChange fnSetIndentsKeepsHasNewLinesSpec)

/-- ITS FALSE NEIGHBOUR: 'it returns false'. Refute it at one input. -/
def fnSetIndentsKeepsHasNewLinesWrong : ChangeSpec := { name := "fnSetIndentsKeepsHasNewLines", fn := fun _ => fun
  | [d1, d2, d3] => { results := [.lit (.bool false)], args := [d1, d2, d3] }
  | _ => none }
def FnSetIndentsKeepsHasNewLinesWrongFalsely : Prop := fnSetIndentsKeepsHasNewLinesRow.holds Try.pinned (OpenSpec.ofChange fnSetIndentsKeepsHasNewLinesWrong)

/-- 'n008_2.FnContainsNewlineIffNotAllInterstitial': WHATEVER THE INPUT: true; the input reads as it did. -/
def fnContainsNewlineIffNotAllInterstitialSpec : ChangeSpec := { name := "fnContainsNewlineIffNotAllInterstitial", fn := fun _ => fun
  | [d] => { results := [.lit (.bool true)], args := [d] }
  | _ => none }
def fnContainsNewlineIffNotAllInterstitialRow : OpenClaim := { program := "ytecldheglbojaaa", sum := "2f97e652fa69b2c363a72e7589236357a8b65225c8a7c5ff7eaa20e821df05d3", func := "github.com/google/go-jsonnet/n008_2.FnContainsNewlineIffNotAllInterstitial", spec := "fnContainsNewlineIffNotAllInterstitial", apart := false }
def FnContainsNewlineIffNotAllInterstitialSaid : Prop := fnContainsNewlineIffNotAllInterstitialRow.holds Try.pinned (OpenSpec.ofChange fnContainsNewlineIffNotAllInterstitialSpec)

/-- ITS FALSE NEIGHBOUR: 'it returns false'. Refute it at one input. -/
def fnContainsNewlineIffNotAllInterstitialWrong : ChangeSpec := { name := "fnContainsNewlineIffNotAllInterstitial", fn := fun _ => fun
  | [d] => { results := [.lit (.bool false)], args := [d] }
  | _ => none }
def FnContainsNewlineIffNotAllInterstitialWrongFalsely : Prop := fnContainsNewlineIffNotAllInterstitialRow.holds Try.pinned (OpenSpec.ofChange fnContainsNewlineIffNotAllInterstitialWrong)

/-- 'n008_14.FnEnforceMaxBlankLinesIdempotentClamp': WHATEVER THE INPUT: true; the input reads as it did. -/
def fnEnforceMaxBlankLinesIdempotentClampSpec : ChangeSpec := { name := "fnEnforceMaxBlankLinesIdempotentClamp", fn := fun _ => fun
  | [d1, d2, d3, d4] => { results := [.lit (.bool true)], args := [d1, d2, d3, d4] }
  | _ => none }
def fnEnforceMaxBlankLinesIdempotentClampRow : OpenClaim := { program := "ytecldheglbojaaa", sum := "2f97e652fa69b2c363a72e7589236357a8b65225c8a7c5ff7eaa20e821df05d3", func := "github.com/google/go-jsonnet/n008_14.FnEnforceMaxBlankLinesIdempotentClamp", spec := "fnEnforceMaxBlankLinesIdempotentClamp", apart := false }
def FnEnforceMaxBlankLinesIdempotentClampSaid : Prop := fnEnforceMaxBlankLinesIdempotentClampRow.holds Try.pinned (OpenSpec.ofChange fnEnforceMaxBlankLinesIdempotentClampSpec)

/-- ITS FALSE NEIGHBOUR: 'it returns false'. Refute it at one input. -/
def fnEnforceMaxBlankLinesIdempotentClampWrong : ChangeSpec := { name := "fnEnforceMaxBlankLinesIdempotentClamp", fn := fun _ => fun
  | [d1, d2, d3, d4] => { results := [.lit (.bool false)], args := [d1, d2, d3, d4] }
  | _ => none }
def FnEnforceMaxBlankLinesIdempotentClampWrongFalsely : Prop := fnEnforceMaxBlankLinesIdempotentClampRow.holds Try.pinned (OpenSpec.ofChange fnEnforceMaxBlankLinesIdempotentClampWrong)

/-- 'n008_2.FnContainsNewlineOverConcat': WHATEVER THE INPUT: true; the input reads as it did. -/
def fnContainsNewlineOverConcatSpec : ChangeSpec := { name := "fnContainsNewlineOverConcat", fn := fun _ => fun
  | [d1, d2] => { results := [.lit (.bool true)], args := [d1, d2] }
  | _ => none }
def fnContainsNewlineOverConcatRow : OpenClaim := { program := "ytecldheglbojaaa", sum := "2f97e652fa69b2c363a72e7589236357a8b65225c8a7c5ff7eaa20e821df05d3", func := "github.com/google/go-jsonnet/n008_2.FnContainsNewlineOverConcat", spec := "fnContainsNewlineOverConcat", apart := false }
def FnContainsNewlineOverConcatSaid : Prop := fnContainsNewlineOverConcatRow.holds Try.pinned (OpenSpec.ofChange fnContainsNewlineOverConcatSpec)

/-- ITS FALSE NEIGHBOUR: 'it returns false'. Refute it at one input. -/
def fnContainsNewlineOverConcatWrong : ChangeSpec := { name := "fnContainsNewlineOverConcat", fn := fun _ => fun
  | [d1, d2] => { results := [.lit (.bool false)], args := [d1, d2] }
  | _ => none }
def FnContainsNewlineOverConcatWrongFalsely : Prop := fnContainsNewlineOverConcatRow.holds Try.pinned (OpenSpec.ofChange fnContainsNewlineOverConcatWrong)

/- THE SECOND FORM. 'bulk': how many values and letters a reading holds, each counted each time it is reached (what is shared counts as often as it is met; a slice's spare places count too). A statement '..UptoSaid' is the law's where the arguments, and the package variables that the reading takes, are together of bulk at most 1048576: NARROWER than '..Said'. Prove '..Said' where nothing that the law and all that it calls make is longer than what came in: it says more and counts as full. Else prove '..UptoSaid'. A law counts once. -/
mutual
def uptoBulk {H : Type} : DataW H → Nat
  | .lit (.string bytes) => bytes.length + 1
  | .lit _ => 1
  | .nil => 1
  | .ptr d => uptoBulk d + 1
  | .slice elems spare => uptoBulkAll elems + uptoBulkAll spare + 1
  | .agg parts => uptoBulkAll parts + 1
  | .iface _ d => uptoBulk d + 1
  | .map entries => uptoBulkEntries entries + 1
  | .held _ => 1
def uptoBulkAll {H : Type} : List (DataW H) → Nat
  | [] => 0
  | d :: r => uptoBulk d + uptoBulkAll r
def uptoBulkEntries {H : Type} : List (Lit × DataW H) → Nat
  | [] => 0
  | x :: r => uptoBulkEntry x + uptoBulkEntries r
def uptoBulkEntry {H : Type} : Lit × DataW H → Nat
  | (.string bytes, d) => bytes.length + uptoBulk d + 1
  | (_, d) => uptoBulk d + 1
 end
def uptoSmall : (H : Type) → List (DataW H) → Bool := fun _ ds => decide (uptoBulkAll ds ≤ 1048576)
def OpenSpec.upto (s : _root_.Go.ChangeSpec) : _root_.Go.OpenSpec := { _root_.Go.OpenSpec.ofChange s with cond := some uptoSmall }

/-- 'n008_2.FnHasNewLinesAgreesWithContainsNewline', WHERE WHAT IT READS IS OF BULK AT MOST 1048576: true; the input reads as it did. -/
def fnHasNewLinesAgreesWithContainsNewlineUptoRow : OpenClaim := { program := "ytecldheglbojaaa", sum := "2f97e652fa69b2c363a72e7589236357a8b65225c8a7c5ff7eaa20e821df05d3", func := "github.com/google/go-jsonnet/n008_2.FnHasNewLinesAgreesWithContainsNewline", spec := "fnHasNewLinesAgreesWithContainsNewline", apart := false, narrowed := true }
def FnHasNewLinesAgreesWithContainsNewlineUptoSaid : Prop := fnHasNewLinesAgreesWithContainsNewlineUptoRow.holds Try.pinned (OpenSpec.upto fnHasNewLinesAgreesWithContainsNewlineSpec)

/-- 'n008_2.FnSetIndentsKeepsHasNewLines', WHERE WHAT IT READS IS OF BULK AT MOST 1048576: true; the input reads as it did. -/
def fnSetIndentsKeepsHasNewLinesUptoRow : OpenClaim := { program := "ytecldheglbojaaa", sum := "2f97e652fa69b2c363a72e7589236357a8b65225c8a7c5ff7eaa20e821df05d3", func := "github.com/google/go-jsonnet/n008_2.FnSetIndentsKeepsHasNewLines", spec := "fnSetIndentsKeepsHasNewLines", apart := false, narrowed := true }
def FnSetIndentsKeepsHasNewLinesUptoSaid : Prop := fnSetIndentsKeepsHasNewLinesUptoRow.holds Try.pinned (OpenSpec.upto fnSetIndentsKeepsHasNewLinesSpec)

/-- 'n008_2.FnContainsNewlineIffNotAllInterstitial', WHERE WHAT IT READS IS OF BULK AT MOST 1048576: true; the input reads as it did. -/
def fnContainsNewlineIffNotAllInterstitialUptoRow : OpenClaim := { program := "ytecldheglbojaaa", sum := "2f97e652fa69b2c363a72e7589236357a8b65225c8a7c5ff7eaa20e821df05d3", func := "github.com/google/go-jsonnet/n008_2.FnContainsNewlineIffNotAllInterstitial", spec := "fnContainsNewlineIffNotAllInterstitial", apart := false, narrowed := true }
def FnContainsNewlineIffNotAllInterstitialUptoSaid : Prop := fnContainsNewlineIffNotAllInterstitialUptoRow.holds Try.pinned (OpenSpec.upto fnContainsNewlineIffNotAllInterstitialSpec)

/-- 'n008_14.FnEnforceMaxBlankLinesIdempotentClamp', WHERE WHAT IT READS IS OF BULK AT MOST 1048576: true; the input reads as it did. -/
def fnEnforceMaxBlankLinesIdempotentClampUptoRow : OpenClaim := { program := "ytecldheglbojaaa", sum := "2f97e652fa69b2c363a72e7589236357a8b65225c8a7c5ff7eaa20e821df05d3", func := "github.com/google/go-jsonnet/n008_14.FnEnforceMaxBlankLinesIdempotentClamp", spec := "fnEnforceMaxBlankLinesIdempotentClamp", apart := false, narrowed := true }
def FnEnforceMaxBlankLinesIdempotentClampUptoSaid : Prop := fnEnforceMaxBlankLinesIdempotentClampUptoRow.holds Try.pinned (OpenSpec.upto fnEnforceMaxBlankLinesIdempotentClampSpec)

/-- 'n008_2.FnContainsNewlineOverConcat', WHERE WHAT IT READS IS OF BULK AT MOST 1048576: true; the input reads as it did. -/
def fnContainsNewlineOverConcatUptoRow : OpenClaim := { program := "ytecldheglbojaaa", sum := "2f97e652fa69b2c363a72e7589236357a8b65225c8a7c5ff7eaa20e821df05d3", func := "github.com/google/go-jsonnet/n008_2.FnContainsNewlineOverConcat", spec := "fnContainsNewlineOverConcat", apart := false, narrowed := true }
def FnContainsNewlineOverConcatUptoSaid : Prop := fnContainsNewlineOverConcatUptoRow.holds Try.pinned (OpenSpec.upto fnContainsNewlineOverConcatSpec)

end Rows
end Go.Proofs.Ytecldheglbojaaa
