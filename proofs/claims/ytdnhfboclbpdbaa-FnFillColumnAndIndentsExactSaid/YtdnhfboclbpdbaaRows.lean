/-
  No cell of these rows narrows 'for every input' (looked for: loops, veiled, ifaces, maps, wideKeys, modest, calm, conditions, laid).
  DERIVED. THE GIVEN ROWS OF THIS SEAT. 10 by the template 'for every input the law returns true; each argument reads behind the call as it read before'; 0 by the template 'total and deterministic' (their statements: YtdnhfboclbpdbaaTotals.lean).
  GIVEN WITH THE SEED: the statements are not yours to turn. If you find one false, say at which input.
  Laid BY PROGRAM, IN A SANDBOX (cutbox-rows.mjs): the forced cells as the released guide's own fill.sh prints them over the translation b69088bf3bba824f… (all of the seat's roots in one cut). By AI agents, Wed Nov 11 2026. No macro, syntax, notation, axiom, sorry.
-/
import Derived.Test.YtdnhfboclbpdbaaChecked
import GoSem.Claim
import GoSem.ClaimJoined
import GoSem.ClaimMapViews
import Derived.JoinedTies
import Derived.KernelRfl
namespace Go.Proofs.Ytdnhfboclbpdbaa
/- THE CELL 'sum', in the pinned program and in every row, IS THE sha256 OF THE DUMP (.gsa) THAT YtdnhfboclbpdbaaProg.lean LOADS. Nothing in Lean hashes anything: it is a label: what it is worth is what the hold of that sum in a sandbox is worth. -/
noncomputable def Try.pinned : Pinned := { name := "ytdnhfboclbpdbaa", sum := "b69088bf3bba824fcbad8efb4d296c4e4587a457b706777058390f2884a9623f", checked := Try.checked }
namespace Rows
def none {H : Type} : Left H := { results := [], args := [] }

/-- 'n008_127.FnAlignIdempotentAndOptionFree': WHATEVER THE INPUT: true; the input reads as it did. -/
def fnAlignIdempotentAndOptionFreeSpec : ChangeSpec := { name := "fnAlignIdempotentAndOptionFree", fn := fun _ => fun
  | [d1, d2, d3, d4, d5, d6] => { results := [.lit (.bool true)], args := [d1, d2, d3, d4, d5, d6] }
  | _ => none }
def fnAlignIdempotentAndOptionFreeRow : OpenClaim := { program := "ytdnhfboclbpdbaa", sum := "b69088bf3bba824fcbad8efb4d296c4e4587a457b706777058390f2884a9623f", func := "github.com/google/go-jsonnet/n008_127.FnAlignIdempotentAndOptionFree", spec := "fnAlignIdempotentAndOptionFree", apart := false }
def FnAlignIdempotentAndOptionFreeSaid : Prop := fnAlignIdempotentAndOptionFreeRow.holds Try.pinned (OpenSpec.ofChange fnAlignIdempotentAndOptionFreeSpec)

/-- ITS FALSE NEIGHBOUR: 'it returns false'. Refute it at one input. -/
def fnAlignIdempotentAndOptionFreeWrong : ChangeSpec := { name := "fnAlignIdempotentAndOptionFree", fn := fun _ => fun
  | [d1, d2, d3, d4, d5, d6] => { results := [.lit (.bool false)], args := [d1, d2, d3, d4, d5, d6] }
  | _ => none }
def FnAlignIdempotentAndOptionFreeWrongFalsely : Prop := fnAlignIdempotentAndOptionFreeRow.holds Try.pinned (OpenSpec.ofChange fnAlignIdempotentAndOptionFreeWrong)

/-- 'n008_127.FnNewIndentShiftsWithBase': WHATEVER THE INPUT: true; the input reads as it did. -/
def fnNewIndentShiftsWithBaseSpec : ChangeSpec := { name := "fnNewIndentShiftsWithBase", fn := fun _ => fun
  | [d1, d2, d3, d4, d5, d6, d7] => { results := [.lit (.bool true)], args := [d1, d2, d3, d4, d5, d6, d7] }
  | _ => none }
def fnNewIndentShiftsWithBaseRow : OpenClaim := { program := "ytdnhfboclbpdbaa", sum := "b69088bf3bba824fcbad8efb4d296c4e4587a457b706777058390f2884a9623f", func := "github.com/google/go-jsonnet/n008_127.FnNewIndentShiftsWithBase", spec := "fnNewIndentShiftsWithBase", apart := false }
def FnNewIndentShiftsWithBaseSaid : Prop := fnNewIndentShiftsWithBaseRow.holds Try.pinned (OpenSpec.ofChange fnNewIndentShiftsWithBaseSpec)

/-- ITS FALSE NEIGHBOUR: 'it returns false'. Refute it at one input. -/
def fnNewIndentShiftsWithBaseWrong : ChangeSpec := { name := "fnNewIndentShiftsWithBase", fn := fun _ => fun
  | [d1, d2, d3, d4, d5, d6, d7] => { results := [.lit (.bool false)], args := [d1, d2, d3, d4, d5, d6, d7] }
  | _ => none }
def FnNewIndentShiftsWithBaseWrongFalsely : Prop := fnNewIndentShiftsWithBaseRow.holds Try.pinned (OpenSpec.ofChange fnNewIndentShiftsWithBaseWrong)

/-- 'n008_101.FnAlignStrongIdempotentAgreesWithAlign': WHATEVER THE INPUT: true; the input reads as it did. -/
def fnAlignStrongIdempotentAgreesWithAlignSpec : ChangeSpec := { name := "fnAlignStrongIdempotentAgreesWithAlign", fn := fun _ => fun
  | [d1, d2, d3, d4, d5] => { results := [.lit (.bool true)], args := [d1, d2, d3, d4, d5] }
  | _ => none }
def fnAlignStrongIdempotentAgreesWithAlignRow : OpenClaim := { program := "ytdnhfboclbpdbaa", sum := "b69088bf3bba824fcbad8efb4d296c4e4587a457b706777058390f2884a9623f", func := "github.com/google/go-jsonnet/n008_101.FnAlignStrongIdempotentAgreesWithAlign", spec := "fnAlignStrongIdempotentAgreesWithAlign", apart := false }
def FnAlignStrongIdempotentAgreesWithAlignSaid : Prop := fnAlignStrongIdempotentAgreesWithAlignRow.holds Try.pinned (OpenSpec.ofChange fnAlignStrongIdempotentAgreesWithAlignSpec)

/-- ITS FALSE NEIGHBOUR: 'it returns false'. Refute it at one input. -/
def fnAlignStrongIdempotentAgreesWithAlignWrong : ChangeSpec := { name := "fnAlignStrongIdempotentAgreesWithAlign", fn := fun _ => fun
  | [d1, d2, d3, d4, d5] => { results := [.lit (.bool false)], args := [d1, d2, d3, d4, d5] }
  | _ => none }
def FnAlignStrongIdempotentAgreesWithAlignWrongFalsely : Prop := fnAlignStrongIdempotentAgreesWithAlignRow.holds Try.pinned (OpenSpec.ofChange fnAlignStrongIdempotentAgreesWithAlignWrong)

/-- 'n008_127.FnNewIndentCases': WHATEVER THE INPUT: true; the input reads as it did. -/
def fnNewIndentCasesSpec : ChangeSpec := { name := "fnNewIndentCases", fn := fun _ => fun
  | [d1, d2, d3, d4, d5] => { results := [.lit (.bool true)], args := [d1, d2, d3, d4, d5] }
  | _ => none }
def fnNewIndentCasesRow : OpenClaim := { program := "ytdnhfboclbpdbaa", sum := "b69088bf3bba824fcbad8efb4d296c4e4587a457b706777058390f2884a9623f", func := "github.com/google/go-jsonnet/n008_127.FnNewIndentCases", spec := "fnNewIndentCases", apart := false }
def FnNewIndentCasesSaid : Prop := fnNewIndentCasesRow.holds Try.pinned (OpenSpec.ofChange fnNewIndentCasesSpec)

/-- ITS FALSE NEIGHBOUR: 'it returns false'. Refute it at one input. -/
def fnNewIndentCasesWrong : ChangeSpec := { name := "fnNewIndentCases", fn := fun _ => fun
  | [d1, d2, d3, d4, d5] => { results := [.lit (.bool false)], args := [d1, d2, d3, d4, d5] }
  | _ => none }
def FnNewIndentCasesWrongFalsely : Prop := fnNewIndentCasesRow.holds Try.pinned (OpenSpec.ofChange fnNewIndentCasesWrong)

/-- 'n008_127.FnIndentFamilyAgree': WHATEVER THE INPUT: true; the input reads as it did. -/
def fnIndentFamilyAgreeSpec : ChangeSpec := { name := "fnIndentFamilyAgree", fn := fun _ => fun
  | [d1, d2, d3, d4, d5] => { results := [.lit (.bool true)], args := [d1, d2, d3, d4, d5] }
  | _ => none }
def fnIndentFamilyAgreeRow : OpenClaim := { program := "ytdnhfboclbpdbaa", sum := "b69088bf3bba824fcbad8efb4d296c4e4587a457b706777058390f2884a9623f", func := "github.com/google/go-jsonnet/n008_127.FnIndentFamilyAgree", spec := "fnIndentFamilyAgree", apart := false }
def FnIndentFamilyAgreeSaid : Prop := fnIndentFamilyAgreeRow.holds Try.pinned (OpenSpec.ofChange fnIndentFamilyAgreeSpec)

/-- ITS FALSE NEIGHBOUR: 'it returns false'. Refute it at one input. -/
def fnIndentFamilyAgreeWrong : ChangeSpec := { name := "fnIndentFamilyAgree", fn := fun _ => fun
  | [d1, d2, d3, d4, d5] => { results := [.lit (.bool false)], args := [d1, d2, d3, d4, d5] }
  | _ => none }
def FnIndentFamilyAgreeWrongFalsely : Prop := fnIndentFamilyAgreeRow.holds Try.pinned (OpenSpec.ofChange fnIndentFamilyAgreeWrong)

/-- 'n008_176.FnRemoveExtraTrailingNewlinesZeroesOnlyLastBlanks': WHATEVER THE INPUT: true; the input reads as it did. -/
def fnRemoveExtraTrailingNewlinesZeroesOnlyLastBlanksSpec : ChangeSpec := { name := "fnRemoveExtraTrailingNewlinesZeroesOnlyLastBlanks", fn := fun _ => fun
  | [d] => { results := [.lit (.bool true)], args := [d] }
  | _ => none }
def fnRemoveExtraTrailingNewlinesZeroesOnlyLastBlanksRow : OpenClaim := { program := "ytdnhfboclbpdbaa", sum := "b69088bf3bba824fcbad8efb4d296c4e4587a457b706777058390f2884a9623f", func := "github.com/google/go-jsonnet/n008_176.FnRemoveExtraTrailingNewlinesZeroesOnlyLastBlanks", spec := "fnRemoveExtraTrailingNewlinesZeroesOnlyLastBlanks", apart := false }
def FnRemoveExtraTrailingNewlinesZeroesOnlyLastBlanksSaid : Prop := fnRemoveExtraTrailingNewlinesZeroesOnlyLastBlanksRow.holds Try.pinned (OpenSpec.ofChange fnRemoveExtraTrailingNewlinesZeroesOnlyLastBlanksSpec)

/-- ITS FALSE NEIGHBOUR: 'it returns false'. Refute it at one input. -/
def fnRemoveExtraTrailingNewlinesZeroesOnlyLastBlanksWrong : ChangeSpec := { name := "fnRemoveExtraTrailingNewlinesZeroesOnlyLastBlanks", fn := fun _ => fun
  | [d] => { results := [.lit (.bool false)], args := [d] }
  | _ => none }
def FnRemoveExtraTrailingNewlinesZeroesOnlyLastBlanksWrongFalsely : Prop := fnRemoveExtraTrailingNewlinesZeroesOnlyLastBlanksRow.holds Try.pinned (OpenSpec.ofChange fnRemoveExtraTrailingNewlinesZeroesOnlyLastBlanksWrong)

/-- 'n008_127.FnFillShiftsWithStartColumn': WHATEVER THE INPUT: true; the input reads as it did. -/
def fnFillShiftsWithStartColumnSpec : ChangeSpec := { name := "fnFillShiftsWithStartColumn", fn := fun _ => fun
  | [d1, d2, d3, d4, d5, d6, d7] => { results := [.lit (.bool true)], args := [d1, d2, d3, d4, d5, d6, d7] }
  | _ => none }
def fnFillShiftsWithStartColumnRow : OpenClaim := { program := "ytdnhfboclbpdbaa", sum := "b69088bf3bba824fcbad8efb4d296c4e4587a457b706777058390f2884a9623f", func := "github.com/google/go-jsonnet/n008_127.FnFillShiftsWithStartColumn", spec := "fnFillShiftsWithStartColumn", apart := false }
def FnFillShiftsWithStartColumnSaid : Prop := fnFillShiftsWithStartColumnRow.holds Try.pinned (OpenSpec.ofChange fnFillShiftsWithStartColumnSpec)

/-- ITS FALSE NEIGHBOUR: 'it returns false'. Refute it at one input. -/
def fnFillShiftsWithStartColumnWrong : ChangeSpec := { name := "fnFillShiftsWithStartColumn", fn := fun _ => fun
  | [d1, d2, d3, d4, d5, d6, d7] => { results := [.lit (.bool false)], args := [d1, d2, d3, d4, d5, d6, d7] }
  | _ => none }
def FnFillShiftsWithStartColumnWrongFalsely : Prop := fnFillShiftsWithStartColumnRow.holds Try.pinned (OpenSpec.ofChange fnFillShiftsWithStartColumnWrong)

/-- 'n008_176.FnRemoveExtraTrailingNewlinesPrefixOnlyAndIdempotent': WHATEVER THE INPUT: true; the input reads as it did. -/
def fnRemoveExtraTrailingNewlinesPrefixOnlyAndIdempotentSpec : ChangeSpec := { name := "fnRemoveExtraTrailingNewlinesPrefixOnlyAndIdempotent", fn := fun _ => fun
  | [d1, d2] => { results := [.lit (.bool true)], args := [d1, d2] }
  | _ => none }
def fnRemoveExtraTrailingNewlinesPrefixOnlyAndIdempotentRow : OpenClaim := { program := "ytdnhfboclbpdbaa", sum := "b69088bf3bba824fcbad8efb4d296c4e4587a457b706777058390f2884a9623f", func := "github.com/google/go-jsonnet/n008_176.FnRemoveExtraTrailingNewlinesPrefixOnlyAndIdempotent", spec := "fnRemoveExtraTrailingNewlinesPrefixOnlyAndIdempotent", apart := false }
def FnRemoveExtraTrailingNewlinesPrefixOnlyAndIdempotentSaid : Prop := fnRemoveExtraTrailingNewlinesPrefixOnlyAndIdempotentRow.holds Try.pinned (OpenSpec.ofChange fnRemoveExtraTrailingNewlinesPrefixOnlyAndIdempotentSpec)

/-- ITS FALSE NEIGHBOUR: 'it returns false'. Refute it at one input. -/
def fnRemoveExtraTrailingNewlinesPrefixOnlyAndIdempotentWrong : ChangeSpec := { name := "fnRemoveExtraTrailingNewlinesPrefixOnlyAndIdempotent", fn := fun _ => fun
  | [d1, d2] => { results := [.lit (.bool false)], args := [d1, d2] }
  | _ => none }
def FnRemoveExtraTrailingNewlinesPrefixOnlyAndIdempotentWrongFalsely : Prop := fnRemoveExtraTrailingNewlinesPrefixOnlyAndIdempotentRow.holds Try.pinned (OpenSpec.ofChange fnRemoveExtraTrailingNewlinesPrefixOnlyAndIdempotentWrong)

/-- 'n008_114.FnEnforceCommentStyleHashSlashRoundTrip': WHATEVER THE INPUT: true; the input reads as it did. -/
def fnEnforceCommentStyleHashSlashRoundTripSpec : ChangeSpec := { name := "fnEnforceCommentStyleHashSlashRoundTrip", fn := fun _ => fun
  | [d1, d2, d3] => { results := [.lit (.bool true)], args := [d1, d2, d3] }
  | _ => none }
def fnEnforceCommentStyleHashSlashRoundTripRow : OpenClaim := { program := "ytdnhfboclbpdbaa", sum := "b69088bf3bba824fcbad8efb4d296c4e4587a457b706777058390f2884a9623f", func := "github.com/google/go-jsonnet/n008_114.FnEnforceCommentStyleHashSlashRoundTrip", spec := "fnEnforceCommentStyleHashSlashRoundTrip", apart := false }
def FnEnforceCommentStyleHashSlashRoundTripSaid : Prop := fnEnforceCommentStyleHashSlashRoundTripRow.holds Try.pinned (OpenSpec.ofChange fnEnforceCommentStyleHashSlashRoundTripSpec)

/-- ITS FALSE NEIGHBOUR: 'it returns false'. Refute it at one input. -/
def fnEnforceCommentStyleHashSlashRoundTripWrong : ChangeSpec := { name := "fnEnforceCommentStyleHashSlashRoundTrip", fn := fun _ => fun
  | [d1, d2, d3] => { results := [.lit (.bool false)], args := [d1, d2, d3] }
  | _ => none }
def FnEnforceCommentStyleHashSlashRoundTripWrongFalsely : Prop := fnEnforceCommentStyleHashSlashRoundTripRow.holds Try.pinned (OpenSpec.ofChange fnEnforceCommentStyleHashSlashRoundTripWrong)

/-- 'n008_127.FnFillColumnAndIndentsExact': WHATEVER THE INPUT: true; the input reads as it did. -/
def fnFillColumnAndIndentsExactSpec : ChangeSpec := { name := "fnFillColumnAndIndentsExact", fn := fun _ => fun
  | [d1, d2, d3, d4, d5, d6, d7] => { results := [.lit (.bool true)], args := [d1, d2, d3, d4, d5, d6, d7] }
  | _ => none }
def fnFillColumnAndIndentsExactRow : OpenClaim := { program := "ytdnhfboclbpdbaa", sum := "b69088bf3bba824fcbad8efb4d296c4e4587a457b706777058390f2884a9623f", func := "github.com/google/go-jsonnet/n008_127.FnFillColumnAndIndentsExact", spec := "fnFillColumnAndIndentsExact", apart := false }
def FnFillColumnAndIndentsExactSaid : Prop := fnFillColumnAndIndentsExactRow.holds Try.pinned (OpenSpec.ofChange fnFillColumnAndIndentsExactSpec)

/-- ITS FALSE NEIGHBOUR: 'it returns false'. Refute it at one input. -/
def fnFillColumnAndIndentsExactWrong : ChangeSpec := { name := "fnFillColumnAndIndentsExact", fn := fun _ => fun
  | [d1, d2, d3, d4, d5, d6, d7] => { results := [.lit (.bool false)], args := [d1, d2, d3, d4, d5, d6, d7] }
  | _ => none }
def FnFillColumnAndIndentsExactWrongFalsely : Prop := fnFillColumnAndIndentsExactRow.holds Try.pinned (OpenSpec.ofChange fnFillColumnAndIndentsExactWrong)

/- THE SECOND FORM. 'bulk': how many values and letters a reading holds, each counted each time it is reached (what is shared counts as often as it is met; a slice's spare places count too). A statement '..UptoSaid' is the law's where the arguments, and the package variables that the reading takes, are together of bulk at most 1048576: NARROWER than '..Said'. Prove '..Said' where nothing that the law and all that it calls make is longer than what came in: it says more and counts as full. Else prove '..UptoSaid'. A law counts once. -/
mutual
def uptoBulk {H : Type} : DataW H → Nat
  | .lit (.string bytes) => bytes.length + 1
  | .lit _ => 1
  | .nil => 1
  | .ptr d => uptoBulk d + 1
  | .slice elems spare => uptoBulkAll elems + uptoBulkAll spare + 1
  | .agg parts => uptoBulkAll parts + 1
  | .iface _ d => uptoBulk d + 1
  | .map entries => uptoBulkEntries entries + 1
  | .held _ => 1
def uptoBulkAll {H : Type} : List (DataW H) → Nat
  | [] => 0
  | d :: r => uptoBulk d + uptoBulkAll r
def uptoBulkEntries {H : Type} : List (Lit × DataW H) → Nat
  | [] => 0
  | x :: r => uptoBulkEntry x + uptoBulkEntries r
def uptoBulkEntry {H : Type} : Lit × DataW H → Nat
  | (.string bytes, d) => bytes.length + uptoBulk d + 1
  | (_, d) => uptoBulk d + 1
 end
def uptoSmall : (H : Type) → List (DataW H) → Bool := fun _ ds => decide (uptoBulkAll ds ≤ 1048576)
def OpenSpec.upto (s : _root_.Go.ChangeSpec) : _root_.Go.OpenSpec := { _root_.Go.OpenSpec.ofChange s with cond := some uptoSmall }

/-- 'n008_127.FnAlignIdempotentAndOptionFree', WHERE WHAT IT READS IS OF BULK AT MOST 1048576: true; the input reads as it did. -/
def fnAlignIdempotentAndOptionFreeUptoRow : OpenClaim := { program := "ytdnhfboclbpdbaa", sum := "b69088bf3bba824fcbad8efb4d296c4e4587a457b706777058390f2884a9623f", func := "github.com/google/go-jsonnet/n008_127.FnAlignIdempotentAndOptionFree", spec := "fnAlignIdempotentAndOptionFree", apart := false, narrowed := true }
def FnAlignIdempotentAndOptionFreeUptoSaid : Prop := fnAlignIdempotentAndOptionFreeUptoRow.holds Try.pinned (OpenSpec.upto fnAlignIdempotentAndOptionFreeSpec)

/-- 'n008_127.FnNewIndentShiftsWithBase', WHERE WHAT IT READS IS OF BULK AT MOST 1048576: true; the input reads as it did. -/
def fnNewIndentShiftsWithBaseUptoRow : OpenClaim := { program := "ytdnhfboclbpdbaa", sum := "b69088bf3bba824fcbad8efb4d296c4e4587a457b706777058390f2884a9623f", func := "github.com/google/go-jsonnet/n008_127.FnNewIndentShiftsWithBase", spec := "fnNewIndentShiftsWithBase", apart := false, narrowed := true }
def FnNewIndentShiftsWithBaseUptoSaid : Prop := fnNewIndentShiftsWithBaseUptoRow.holds Try.pinned (OpenSpec.upto fnNewIndentShiftsWithBaseSpec)

/-- 'n008_101.FnAlignStrongIdempotentAgreesWithAlign', WHERE WHAT IT READS IS OF BULK AT MOST 1048576: true; the input reads as it did. -/
def fnAlignStrongIdempotentAgreesWithAlignUptoRow : OpenClaim := { program := "ytdnhfboclbpdbaa", sum := "b69088bf3bba824fcbad8efb4d296c4e4587a457b706777058390f2884a9623f", func := "github.com/google/go-jsonnet/n008_101.FnAlignStrongIdempotentAgreesWithAlign", spec := "fnAlignStrongIdempotentAgreesWithAlign", apart := false, narrowed := true }
def FnAlignStrongIdempotentAgreesWithAlignUptoSaid : Prop := fnAlignStrongIdempotentAgreesWithAlignUptoRow.holds Try.pinned (OpenSpec.upto fnAlignStrongIdempotentAgreesWithAlignSpec)

/-- 'n008_127.FnNewIndentCases', WHERE WHAT IT READS IS OF BULK AT MOST 1048576: true; the input reads as it did. -/
def fnNewIndentCasesUptoRow : OpenClaim := { program := "ytdnhfboclbpdbaa", sum := "b69088bf3bba824fcbad8efb4d296c4e4587a457b706777058390f2884a9623f", func := "github.com/google/go-jsonnet/n008_127.FnNewIndentCases", spec := "fnNewIndentCases", apart := false, narrowed := true }
def FnNewIndentCasesUptoSaid : Prop := fnNewIndentCasesUptoRow.holds Try.pinned (OpenSpec.upto fnNewIndentCasesSpec)

/-- 'n008_127.FnIndentFamilyAgree', WHERE WHAT IT READS IS OF BULK AT MOST 1048576: true; the input reads as it did. -/
def fnIndentFamilyAgreeUptoRow : OpenClaim := { program := "ytdnhfboclbpdbaa", sum := "b69088bf3bba824fcbad8efb4d296c4e4587a457b706777058390f2884a9623f", func := "github.com/google/go-jsonnet/n008_127.FnIndentFamilyAgree", spec := "fnIndentFamilyAgree", apart := false, narrowed := true }
def FnIndentFamilyAgreeUptoSaid : Prop := fnIndentFamilyAgreeUptoRow.holds Try.pinned (OpenSpec.upto fnIndentFamilyAgreeSpec)

/-- 'n008_176.FnRemoveExtraTrailingNewlinesZeroesOnlyLastBlanks', WHERE WHAT IT READS IS OF BULK AT MOST 1048576: true; the input reads as it did. -/
def fnRemoveExtraTrailingNewlinesZeroesOnlyLastBlanksUptoRow : OpenClaim := { program := "ytdnhfboclbpdbaa", sum := "b69088bf3bba824fcbad8efb4d296c4e4587a457b706777058390f2884a9623f", func := "github.com/google/go-jsonnet/n008_176.FnRemoveExtraTrailingNewlinesZeroesOnlyLastBlanks", spec := "fnRemoveExtraTrailingNewlinesZeroesOnlyLastBlanks", apart := false, narrowed := true }
def FnRemoveExtraTrailingNewlinesZeroesOnlyLastBlanksUptoSaid : Prop := fnRemoveExtraTrailingNewlinesZeroesOnlyLastBlanksUptoRow.holds Try.pinned (OpenSpec.upto fnRemoveExtraTrailingNewlinesZeroesOnlyLastBlanksSpec)

/-- 'n008_127.FnFillShiftsWithStartColumn', WHERE WHAT IT READS IS OF BULK AT MOST 1048576: true; the input reads as it did. -/
def fnFillShiftsWithStartColumnUptoRow : OpenClaim := { program := "ytdnhfboclbpdbaa", sum := "b69088bf3bba824fcbad8efb4d296c4e4587a457b706777058390f2884a9623f", func := "github.com/google/go-jsonnet/n008_127.FnFillShiftsWithStartColumn", spec := "fnFillShiftsWithStartColumn", apart := false, narrowed := true }
def FnFillShiftsWithStartColumnUptoSaid : Prop := fnFillShiftsWithStartColumnUptoRow.holds Try.pinned (OpenSpec.upto fnFillShiftsWithStartColumnSpec)

/-- 'n008_176.FnRemoveExtraTrailingNewlinesPrefixOnlyAndIdempotent', WHERE WHAT IT READS IS OF BULK AT MOST 1048576: true; the input reads as it did. -/
def fnRemoveExtraTrailingNewlinesPrefixOnlyAndIdempotentUptoRow : OpenClaim := { program := "ytdnhfboclbpdbaa", sum := "b69088bf3bba824fcbad8efb4d296c4e4587a457b706777058390f2884a9623f", func := "github.com/google/go-jsonnet/n008_176.FnRemoveExtraTrailingNewlinesPrefixOnlyAndIdempotent", spec := "fnRemoveExtraTrailingNewlinesPrefixOnlyAndIdempotent", apart := false, narrowed := true }
def FnRemoveExtraTrailingNewlinesPrefixOnlyAndIdempotentUptoSaid : Prop := fnRemoveExtraTrailingNewlinesPrefixOnlyAndIdempotentUptoRow.holds Try.pinned (OpenSpec.upto fnRemoveExtraTrailingNewlinesPrefixOnlyAndIdempotentSpec)

/-- 'n008_114.FnEnforceCommentStyleHashSlashRoundTrip', WHERE WHAT IT READS IS OF BULK AT MOST 1048576: true; the input reads as it did. -/
def fnEnforceCommentStyleHashSlashRoundTripUptoRow : OpenClaim := { program := "ytdnhfboclbpdbaa", sum := "b69088bf3bba824fcbad8efb4d296c4e4587a457b706777058390f2884a9623f", func := "github.com/google/go-jsonnet/n008_114.FnEnforceCommentStyleHashSlashRoundTrip", spec := "fnEnforceCommentStyleHashSlashRoundTrip", apart := false, narrowed := true }
def FnEnforceCommentStyleHashSlashRoundTripUptoSaid : Prop := fnEnforceCommentStyleHashSlashRoundTripUptoRow.holds Try.pinned (OpenSpec.upto fnEnforceCommentStyleHashSlashRoundTripSpec)

/-- 'n008_127.FnFillColumnAndIndentsExact', WHERE WHAT IT READS IS OF BULK AT MOST 1048576: true; the input reads as it did. -/
def fnFillColumnAndIndentsExactUptoRow : OpenClaim := { program := "ytdnhfboclbpdbaa", sum := "b69088bf3bba824fcbad8efb4d296c4e4587a457b706777058390f2884a9623f", func := "github.com/google/go-jsonnet/n008_127.FnFillColumnAndIndentsExact", spec := "fnFillColumnAndIndentsExact", apart := false, narrowed := true }
def FnFillColumnAndIndentsExactUptoSaid : Prop := fnFillColumnAndIndentsExactUptoRow.holds Try.pinned (OpenSpec.upto fnFillColumnAndIndentsExactSpec)

end Rows
end Go.Proofs.Ytdnhfboclbpdbaa
