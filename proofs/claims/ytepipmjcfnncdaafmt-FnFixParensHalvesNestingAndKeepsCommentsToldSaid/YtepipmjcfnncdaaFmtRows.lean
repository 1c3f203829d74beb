/-
  No cell of these rows narrows 'for every input' (looked for: loops, veiled, ifaces, maps, wideKeys, modest, calm, conditions, laid).
  DERIVED. THE GIVEN ROWS OF THIS SEAT. 10 by the template 'for every input the law returns true; each argument reads behind the call as it read before'; 0 by the template 'total and deterministic' (their statements: YtepipmjcfnncdaaFmtTotals.lean).
  GIVEN WITH THE SEED: the statements are not yours to turn. If you find one false, say at which input.
  Laid BY PROGRAM, IN A SANDBOX (cutbox-rows.mjs): the forced cells as the released guide's own fill.sh prints them over the translation 719c1d95ebe511da… (all of the seat's roots in one cut). By AI agents, Wed Nov 11 2026. No macro, syntax, notation, axiom, sorry.
-/
import Derived.Test.YtepipmjcfnncdaaFmtChecked
import GoSem.Claim
import GoSem.ClaimJoined
import GoSem.ClaimMapViews
import Derived.JoinedTies
import Derived.KernelRfl
namespace Go.Proofs.YtepipmjcfnncdaaFmt
/- THE CELL 'sum', in the pinned program and in every row, IS THE sha256 OF THE DUMP (.gsa) THAT YtepipmjcfnncdaaFmtProg.lean LOADS. Nothing in Lean hashes anything: it is a label: what it is worth is what the hold of that sum in a sandbox is worth. -/
noncomputable def Tryf.pinned : Pinned := { name := "ytepipmjcfnncdaafmt", sum := "719c1d95ebe511da87f468ddcf90bfa60d3ccc471919681107538b142d44ca81", checked := Tryf.checked }
namespace Rows
def none {H : Type} : Left H := { results := [], args := [] }

/-- 'n008_125.FnIndexLiteralToIdExact': WHATEVER THE INPUT: true; the input reads as it did. -/
def fnIndexLiteralToIdExactSpec : ChangeSpec := { name := "fnIndexLiteralToIdExact", fn := fun _ => fun
  | [d1, d2, d3] => { results := [.lit (.bool true)], args := [d1, d2, d3] }
  | _ => none }
def fnIndexLiteralToIdExactRow : OpenClaim := { program := "ytepipmjcfnncdaafmt", sum := "719c1d95ebe511da87f468ddcf90bfa60d3ccc471919681107538b142d44ca81", func := "github.com/google/go-jsonnet/n008_125.FnIndexLiteralToIdExact", spec := "fnIndexLiteralToIdExact", stops := ["fmt.Sprintf"], unfollowed := true, recurses := true, apart := false }
/-- NO THEOREM (fmt's text is open here; it may be false): for the released tool's asking of the row's closed facts alone. THE STATEMENT IS 'FnIndexLiteralToIdExactToldSaid' (YtepipmjcfnncdaaFmtCards.lean). -/
def FnIndexLiteralToIdExactFormAsk : Prop := fnIndexLiteralToIdExactRow.holds Tryf.pinned (OpenSpec.ofChange fnIndexLiteralToIdExactSpec)

/-- ITS FALSE NEIGHBOUR: 'it returns false'. Refute it at one input. -/
def fnIndexLiteralToIdExactWrong : ChangeSpec := { name := "fnIndexLiteralToIdExact", fn := fun _ => fun
  | [d1, d2, d3] => { results := [.lit (.bool false)], args := [d1, d2, d3] }
  | _ => none }
def FnIndexLiteralToIdExactWrongFormAsk : Prop := fnIndexLiteralToIdExactRow.holds Tryf.pinned (OpenSpec.ofChange fnIndexLiteralToIdExactWrong)

/-- 'n008_22.FnRemovePlusRewriteTable': WHATEVER THE INPUT: true; the input reads as it did. -/
def fnRemovePlusRewriteTableSpec : ChangeSpec := { name := "fnRemovePlusRewriteTable", fn := fun _ => fun
  | [d1, d2, d3, d4, d5, d6, d7, d8] => { results := [.lit (.bool true)], args := [d1, d2, d3, d4, d5, d6, d7, d8] }
  | _ => none }
def fnRemovePlusRewriteTableRow : OpenClaim := { program := "ytepipmjcfnncdaafmt", sum := "719c1d95ebe511da87f468ddcf90bfa60d3ccc471919681107538b142d44ca81", func := "github.com/google/go-jsonnet/n008_22.FnRemovePlusRewriteTable", spec := "fnRemovePlusRewriteTable", stops := ["fmt.Sprintf"], inPlace := ["fmt.Sprintf"], unfollowed := true, recurses := true, apart := false }
/-- NO THEOREM (fmt's text is open here; it may be false): for the released tool's asking of the row's closed facts alone. THE STATEMENT IS 'FnRemovePlusRewriteTableToldSaid' (YtepipmjcfnncdaaFmtCards.lean). -/
def FnRemovePlusRewriteTableFormAsk : Prop := fnRemovePlusRewriteTableRow.holds Tryf.pinned (OpenSpec.ofChange fnRemovePlusRewriteTableSpec)

/-- ITS FALSE NEIGHBOUR: 'it returns false'. Refute it at one input. -/
def fnRemovePlusRewriteTableWrong : ChangeSpec := { name := "fnRemovePlusRewriteTable", fn := fun _ => fun
  | [d1, d2, d3, d4, d5, d6, d7, d8] => { results := [.lit (.bool false)], args := [d1, d2, d3, d4, d5, d6, d7, d8] }
  | _ => none }
def FnRemovePlusRewriteTableWrongFormAsk : Prop := fnRemovePlusRewriteTableRow.holds Tryf.pinned (OpenSpec.ofChange fnRemovePlusRewriteTableWrong)

/-- 'n008_124.FnFixNewlinesLocalIdempotent': WHATEVER THE INPUT: true; the input reads as it did. -/
def fnFixNewlinesLocalIdempotentSpec : ChangeSpec := { name := "fnFixNewlinesLocalIdempotent", fn := fun _ => fun
  | [d] => { results := [.lit (.bool true)], args := [d] }
  | _ => none }
def fnFixNewlinesLocalIdempotentRow : OpenClaim := { program := "ytepipmjcfnncdaafmt", sum := "719c1d95ebe511da87f468ddcf90bfa60d3ccc471919681107538b142d44ca81", func := "github.com/google/go-jsonnet/n008_124.FnFixNewlinesLocalIdempotent", spec := "fnFixNewlinesLocalIdempotent", stops := ["fmt.Sprintf"], inPlace := ["fmt.Sprintf"], unfollowed := true, recurses := true, apart := false }
/-- NO THEOREM (fmt's text is open here; it may be false): for the released tool's asking of the row's closed facts alone. THE STATEMENT IS 'FnFixNewlinesLocalIdempotentToldSaid' (YtepipmjcfnncdaaFmtCards.lean). -/
def FnFixNewlinesLocalIdempotentFormAsk : Prop := fnFixNewlinesLocalIdempotentRow.holds Tryf.pinned (OpenSpec.ofChange fnFixNewlinesLocalIdempotentSpec)

/-- ITS FALSE NEIGHBOUR: 'it returns false'. Refute it at one input. -/
def fnFixNewlinesLocalIdempotentWrong : ChangeSpec := { name := "fnFixNewlinesLocalIdempotent", fn := fun _ => fun
  | [d] => { results := [.lit (.bool false)], args := [d] }
  | _ => none }
def FnFixNewlinesLocalIdempotentWrongFormAsk : Prop := fnFixNewlinesLocalIdempotentRow.holds Tryf.pinned (OpenSpec.ofChange fnFixNewlinesLocalIdempotentWrong)

/-- 'n008_124.FnFixNewlinesArrayIdempotent': WHATEVER THE INPUT: true; the input reads as it did. -/
def fnFixNewlinesArrayIdempotentSpec : ChangeSpec := { name := "fnFixNewlinesArrayIdempotent", fn := fun _ => fun
  | [d1, d2] => { results := [.lit (.bool true)], args := [d1, d2] }
  | _ => none }
def fnFixNewlinesArrayIdempotentRow : OpenClaim := { program := "ytepipmjcfnncdaafmt", sum := "719c1d95ebe511da87f468ddcf90bfa60d3ccc471919681107538b142d44ca81", func := "github.com/google/go-jsonnet/n008_124.FnFixNewlinesArrayIdempotent", spec := "fnFixNewlinesArrayIdempotent", stops := ["fmt.Sprintf"], inPlace := ["fmt.Sprintf"], unfollowed := true, recurses := true, apart := false }
/-- NO THEOREM (fmt's text is open here; it may be false): for the released tool's asking of the row's closed facts alone. THE STATEMENT IS 'FnFixNewlinesArrayIdempotentToldSaid' (YtepipmjcfnncdaaFmtCards.lean). -/
def FnFixNewlinesArrayIdempotentFormAsk : Prop := fnFixNewlinesArrayIdempotentRow.holds Tryf.pinned (OpenSpec.ofChange fnFixNewlinesArrayIdempotentSpec)

/-- ITS FALSE NEIGHBOUR: 'it returns false'. Refute it at one input. -/
def fnFixNewlinesArrayIdempotentWrong : ChangeSpec := { name := "fnFixNewlinesArrayIdempotent", fn := fun _ => fun
  | [d1, d2] => { results := [.lit (.bool false)], args := [d1, d2] }
  | _ => none }
def FnFixNewlinesArrayIdempotentWrongFormAsk : Prop := fnFixNewlinesArrayIdempotentRow.holds Tryf.pinned (OpenSpec.ofChange fnFixNewlinesArrayIdempotentWrong)

/-- 'n008_102.FnFixParensCollapsesDoubleParensMovingFodder': WHATEVER THE INPUT: true; the input reads as it did. -/
def fnFixParensCollapsesDoubleParensMovingFodderSpec : ChangeSpec := { name := "fnFixParensCollapsesDoubleParensMovingFodder", fn := fun _ => fun
  | [d1, d2, d3, d4, d5, d6] => { results := [.lit (.bool true)], args := [d1, d2, d3, d4, d5, d6] }
  | _ => none }
def fnFixParensCollapsesDoubleParensMovingFodderRow : OpenClaim := { program := "ytepipmjcfnncdaafmt", sum := "719c1d95ebe511da87f468ddcf90bfa60d3ccc471919681107538b142d44ca81", func := "github.com/google/go-jsonnet/n008_102.FnFixParensCollapsesDoubleParensMovingFodder", spec := "fnFixParensCollapsesDoubleParensMovingFodder", stops := ["fmt.Sprintf"], inPlace := ["fmt.Sprintf"], unfollowed := true, recurses := true, apart := false }
/-- NO THEOREM (fmt's text is open here; it may be false): for the released tool's asking of the row's closed facts alone. THE STATEMENT IS 'FnFixParensCollapsesDoubleParensMovingFodderToldSaid' (YtepipmjcfnncdaaFmtCards.lean). -/
def FnFixParensCollapsesDoubleParensMovingFodderFormAsk : Prop := fnFixParensCollapsesDoubleParensMovingFodderRow.holds Tryf.pinned (OpenSpec.ofChange fnFixParensCollapsesDoubleParensMovingFodderSpec)

/-- ITS FALSE NEIGHBOUR: 'it returns false'. Refute it at one input. -/
def fnFixParensCollapsesDoubleParensMovingFodderWrong : ChangeSpec := { name := "fnFixParensCollapsesDoubleParensMovingFodder", fn := fun _ => fun
  | [d1, d2, d3, d4, d5, d6] => { results := [.lit (.bool false)], args := [d1, d2, d3, d4, d5, d6] }
  | _ => none }
def FnFixParensCollapsesDoubleParensMovingFodderWrongFormAsk : Prop := fnFixParensCollapsesDoubleParensMovingFodderRow.holds Tryf.pinned (OpenSpec.ofChange fnFixParensCollapsesDoubleParensMovingFodderWrong)

/-- 'n008_125.FnIndexIdempotent': WHATEVER THE INPUT: true; the input reads as it did. -/
def fnIndexIdempotentSpec : ChangeSpec := { name := "fnIndexIdempotent", fn := fun _ => fun
  | [d1, d2, d3] => { results := [.lit (.bool true)], args := [d1, d2, d3] }
  | _ => none }
def fnIndexIdempotentRow : OpenClaim := { program := "ytepipmjcfnncdaafmt", sum := "719c1d95ebe511da87f468ddcf90bfa60d3ccc471919681107538b142d44ca81", func := "github.com/google/go-jsonnet/n008_125.FnIndexIdempotent", spec := "fnIndexIdempotent", stops := ["fmt.Sprintf"], unfollowed := true, recurses := true, apart := false }
/-- NO THEOREM (fmt's text is open here; it may be false): for the released tool's asking of the row's closed facts alone. THE STATEMENT IS 'FnIndexIdempotentToldSaid' (YtepipmjcfnncdaaFmtCards.lean). -/
def FnIndexIdempotentFormAsk : Prop := fnIndexIdempotentRow.holds Tryf.pinned (OpenSpec.ofChange fnIndexIdempotentSpec)

/-- ITS FALSE NEIGHBOUR: 'it returns false'. Refute it at one input. -/
def fnIndexIdempotentWrong : ChangeSpec := { name := "fnIndexIdempotent", fn := fun _ => fun
  | [d1, d2, d3] => { results := [.lit (.bool false)], args := [d1, d2, d3] }
  | _ => none }
def FnIndexIdempotentWrongFormAsk : Prop := fnIndexIdempotentRow.holds Tryf.pinned (OpenSpec.ofChange fnIndexIdempotentWrong)

/-- 'n008_124.FnFixNewlinesObjectIdempotent': WHATEVER THE INPUT: true; the input reads as it did. -/
def fnFixNewlinesObjectIdempotentSpec : ChangeSpec := { name := "fnFixNewlinesObjectIdempotent", fn := fun _ => fun
  | [d1, d2] => { results := [.lit (.bool true)], args := [d1, d2] }
  | _ => none }
def fnFixNewlinesObjectIdempotentRow : OpenClaim := { program := "ytepipmjcfnncdaafmt", sum := "719c1d95ebe511da87f468ddcf90bfa60d3ccc471919681107538b142d44ca81", func := "github.com/google/go-jsonnet/n008_124.FnFixNewlinesObjectIdempotent", spec := "fnFixNewlinesObjectIdempotent", stops := ["fmt.Sprintf"], inPlace := ["fmt.Sprintf"], unfollowed := true, recurses := true, apart := false }
/-- NO THEOREM (fmt's text is open here; it may be false): for the released tool's asking of the row's closed facts alone. THE STATEMENT IS 'FnFixNewlinesObjectIdempotentToldSaid' (YtepipmjcfnncdaaFmtCards.lean). -/
def FnFixNewlinesObjectIdempotentFormAsk : Prop := fnFixNewlinesObjectIdempotentRow.holds Tryf.pinned (OpenSpec.ofChange fnFixNewlinesObjectIdempotentSpec)

/-- ITS FALSE NEIGHBOUR: 'it returns false'. Refute it at one input. -/
def fnFixNewlinesObjectIdempotentWrong : ChangeSpec := { name := "fnFixNewlinesObjectIdempotent", fn := fun _ => fun
  | [d1, d2] => { results := [.lit (.bool false)], args := [d1, d2] }
  | _ => none }
def FnFixNewlinesObjectIdempotentWrongFormAsk : Prop := fnFixNewlinesObjectIdempotentRow.holds Tryf.pinned (OpenSpec.ofChange fnFixNewlinesObjectIdempotentWrong)

/-- 'n008_125.FnObjectFieldKindTableExact': WHATEVER THE INPUT: true; the input reads as it did. -/
def fnObjectFieldKindTableExactSpec : ChangeSpec := { name := "fnObjectFieldKindTableExact", fn := fun _ => fun
  | [d1, d2, d3] => { results := [.lit (.bool true)], args := [d1, d2, d3] }
  | _ => none }
def fnObjectFieldKindTableExactRow : OpenClaim := { program := "ytepipmjcfnncdaafmt", sum := "719c1d95ebe511da87f468ddcf90bfa60d3ccc471919681107538b142d44ca81", func := "github.com/google/go-jsonnet/n008_125.FnObjectFieldKindTableExact", spec := "fnObjectFieldKindTableExact", stops := ["fmt.Sprintf"], inPlace := ["fmt.Sprintf"], unfollowed := true, recurses := true, apart := false }
/-- NO THEOREM (fmt's text is open here; it may be false): for the released tool's asking of the row's closed facts alone. THE STATEMENT IS 'FnObjectFieldKindTableExactToldSaid' (YtepipmjcfnncdaaFmtCards.lean). -/
def FnObjectFieldKindTableExactFormAsk : Prop := fnObjectFieldKindTableExactRow.holds Tryf.pinned (OpenSpec.ofChange fnObjectFieldKindTableExactSpec)

/-- ITS FALSE NEIGHBOUR: 'it returns false'. Refute it at one input. -/
def fnObjectFieldKindTableExactWrong : ChangeSpec := { name := "fnObjectFieldKindTableExact", fn := fun _ => fun
  | [d1, d2, d3] => { results := [.lit (.bool false)], args := [d1, d2, d3] }
  | _ => none }
def FnObjectFieldKindTableExactWrongFormAsk : Prop := fnObjectFieldKindTableExactRow.holds Tryf.pinned (OpenSpec.ofChange fnObjectFieldKindTableExactWrong)

/-- 'n008_125.FnObjectFieldIdempotentMonotone': WHATEVER THE INPUT: true; the input reads as it did. -/
def fnObjectFieldIdempotentMonotoneSpec : ChangeSpec := { name := "fnObjectFieldIdempotentMonotone", fn := fun _ => fun
  | [d1, d2, d3] => { results := [.lit (.bool true)], args := [d1, d2, d3] }
  | _ => none }
def fnObjectFieldIdempotentMonotoneRow : OpenClaim := { program := "ytepipmjcfnncdaafmt", sum := "719c1d95ebe511da87f468ddcf90bfa60d3ccc471919681107538b142d44ca81", func := "github.com/google/go-jsonnet/n008_125.FnObjectFieldIdempotentMonotone", spec := "fnObjectFieldIdempotentMonotone", stops := ["fmt.Sprintf"], inPlace := ["fmt.Sprintf"], unfollowed := true, recurses := true, apart := false }
/-- NO THEOREM (fmt's text is open here; it may be false): for the released tool's asking of the row's closed facts alone. THE STATEMENT IS 'FnObjectFieldIdempotentMonotoneToldSaid' (YtepipmjcfnncdaaFmtCards.lean). -/
def FnObjectFieldIdempotentMonotoneFormAsk : Prop := fnObjectFieldIdempotentMonotoneRow.holds Tryf.pinned (OpenSpec.ofChange fnObjectFieldIdempotentMonotoneSpec)

/-- ITS FALSE NEIGHBOUR: 'it returns false'. Refute it at one input. -/
def fnObjectFieldIdempotentMonotoneWrong : ChangeSpec := { name := "fnObjectFieldIdempotentMonotone", fn := fun _ => fun
  | [d1, d2, d3] => { results := [.lit (.bool false)], args := [d1, d2, d3] }
  | _ => none }
def FnObjectFieldIdempotentMonotoneWrongFormAsk : Prop := fnObjectFieldIdempotentMonotoneRow.holds Tryf.pinned (OpenSpec.ofChange fnObjectFieldIdempotentMonotoneWrong)

/-- 'n008_102.FnFixParensHalvesNestingAndKeepsComments': WHATEVER THE INPUT: true; the input reads as it did. -/
def fnFixParensHalvesNestingAndKeepsCommentsSpec : ChangeSpec := { name := "fnFixParensHalvesNestingAndKeepsComments", fn := fun _ => fun
  | [d1, d2] => { results := [.lit (.bool true)], args := [d1, d2] }
  | _ => none }
def fnFixParensHalvesNestingAndKeepsCommentsRow : OpenClaim := { program := "ytepipmjcfnncdaafmt", sum := "719c1d95ebe511da87f468ddcf90bfa60d3ccc471919681107538b142d44ca81", func := "github.com/google/go-jsonnet/n008_102.FnFixParensHalvesNestingAndKeepsComments", spec := "fnFixParensHalvesNestingAndKeepsComments", stops := ["fmt.Sprintf"], inPlace := ["fmt.Sprintf"], unfollowed := true, recurses := true, apart := false }
/-- NO THEOREM (fmt's text is open here; it may be false): for the released tool's asking of the row's closed facts alone. THE STATEMENT IS 'FnFixParensHalvesNestingAndKeepsCommentsToldSaid' (YtepipmjcfnncdaaFmtCards.lean). -/
def FnFixParensHalvesNestingAndKeepsCommentsFormAsk : Prop := fnFixParensHalvesNestingAndKeepsCommentsRow.holds Tryf.pinned (OpenSpec.ofChange fnFixParensHalvesNestingAndKeepsCommentsSpec)

/-- ITS FALSE NEIGHBOUR: 'it returns false'. Refute it at one input. -/
def fnFixParensHalvesNestingAndKeepsCommentsWrong : ChangeSpec := { name := "fnFixParensHalvesNestingAndKeepsComments", fn := fun _ => fun
  | [d1, d2] => { results := [.lit (.bool false)], args := [d1, d2] }
  | _ => none }
def FnFixParensHalvesNestingAndKeepsCommentsWrongFormAsk : Prop := fnFixParensHalvesNestingAndKeepsCommentsRow.holds Tryf.pinned (OpenSpec.ofChange fnFixParensHalvesNestingAndKeepsCommentsWrong)

end Rows
end Go.Proofs.YtepipmjcfnncdaaFmt
