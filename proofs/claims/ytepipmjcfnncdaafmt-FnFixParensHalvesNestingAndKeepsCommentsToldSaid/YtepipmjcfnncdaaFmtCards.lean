/-
  DERIVED. GIVEN WITH THE SEED: THE CARDS: each row of YtepipmjcfnncdaaFmtRows.lean that lists a variable, with what it lists TIED to the program's text (the seventh form; the later family's looks); each row that meets fmt, with fmt's text TOLD by the authors' own Lean function (tested against real Go, not proved from fmt's source: count such statements apart). THE CARD IS WHAT COUNTS. Prove the row's statement (the work); the ties are given (YtepipmjcfnncdaaFmtTie.lean); close each card by the builder's one call (the guide's Derived/Test/ToyasCard.lean, 'card_holds'). Laid BY PROGRAM, IN A SANDBOX (cutbox-door.mjs). By AI agents, Wed Nov 11 2026. No macro, syntax, notation, axiom, sorry.
-/
import Derived.Test.YtepipmjcfnncdaaFmtRows
import GoSem.ClaimSeven
namespace Go.Proofs.YtepipmjcfnncdaaFmt
namespace Rows

/-- THE TOLD CARD OF 'n008_125.FnIndexLiteralToIdExact'. -/
def fnIndexLiteralToIdExactCard : Claim7 := { stood := { row := fnIndexLiteralToIdExactRow, standIns := [], harness := (true, "4dfaacc545f8c269d53677bc028cc31e8111cc9e78a621cc8696894553c88306"), looks := true }, told := true, goes := false }
def FnIndexLiteralToIdExactToldSaid : Prop := Claim7.holds Tryf.pinned (.plain (OpenSpec.ofChange fnIndexLiteralToIdExactSpec)) fnIndexLiteralToIdExactCard
/-- ITS FALSE NEIGHBOUR. Refute it at one input. -/
def FnIndexLiteralToIdExactToldWrongFalsely : Prop := Claim7.holds Tryf.pinned (.plain (OpenSpec.ofChange fnIndexLiteralToIdExactWrong)) fnIndexLiteralToIdExactCard

/-- THE TOLD CARD OF 'n008_22.FnRemovePlusRewriteTable'. -/
def fnRemovePlusRewriteTableCard : Claim7 := { stood := { row := fnRemovePlusRewriteTableRow, standIns := [], harness := (true, "4dfaacc545f8c269d53677bc028cc31e8111cc9e78a621cc8696894553c88306"), looks := true }, told := true, goes := false }
def FnRemovePlusRewriteTableToldSaid : Prop := Claim7.holds Tryf.pinned (.plain (OpenSpec.ofChange fnRemovePlusRewriteTableSpec)) fnRemovePlusRewriteTableCard
/-- ITS FALSE NEIGHBOUR. Refute it at one input. -/
def FnRemovePlusRewriteTableToldWrongFalsely : Prop := Claim7.holds Tryf.pinned (.plain (OpenSpec.ofChange fnRemovePlusRewriteTableWrong)) fnRemovePlusRewriteTableCard

/-- THE TOLD CARD OF 'n008_124.FnFixNewlinesLocalIdempotent'. -/
def fnFixNewlinesLocalIdempotentCard : Claim7 := { stood := { row := fnFixNewlinesLocalIdempotentRow, standIns := [], harness := (true, "4dfaacc545f8c269d53677bc028cc31e8111cc9e78a621cc8696894553c88306"), looks := true }, told := true, goes := false }
def FnFixNewlinesLocalIdempotentToldSaid : Prop := Claim7.holds Tryf.pinned (.plain (OpenSpec.ofChange fnFixNewlinesLocalIdempotentSpec)) fnFixNewlinesLocalIdempotentCard
/-- ITS FALSE NEIGHBOUR. Refute it at one input. -/
def FnFixNewlinesLocalIdempotentToldWrongFalsely : Prop := Claim7.holds Tryf.pinned (.plain (OpenSpec.ofChange fnFixNewlinesLocalIdempotentWrong)) fnFixNewlinesLocalIdempotentCard

/-- THE TOLD CARD OF 'n008_124.FnFixNewlinesArrayIdempotent'. -/
def fnFixNewlinesArrayIdempotentCard : Claim7 := { stood := { row := fnFixNewlinesArrayIdempotentRow, standIns := [], harness := (true, "4dfaacc545f8c269d53677bc028cc31e8111cc9e78a621cc8696894553c88306"), looks := true }, told := true, goes := false }
def FnFixNewlinesArrayIdempotentToldSaid : Prop := Claim7.holds Tryf.pinned (.plain (OpenSpec.ofChange fnFixNewlinesArrayIdempotentSpec)) fnFixNewlinesArrayIdempotentCard
/-- ITS FALSE NEIGHBOUR. Refute it at one input. -/
def FnFixNewlinesArrayIdempotentToldWrongFalsely : Prop := Claim7.holds Tryf.pinned (.plain (OpenSpec.ofChange fnFixNewlinesArrayIdempotentWrong)) fnFixNewlinesArrayIdempotentCard

/-- THE TOLD CARD OF 'n008_102.FnFixParensCollapsesDoubleParensMovingFodder'. -/
def fnFixParensCollapsesDoubleParensMovingFodderCard : Claim7 := { stood := { row := fnFixParensCollapsesDoubleParensMovingFodderRow, standIns := [], harness := (true, "4dfaacc545f8c269d53677bc028cc31e8111cc9e78a621cc8696894553c88306"), looks := true }, told := true, goes := false }
def FnFixParensCollapsesDoubleParensMovingFodderToldSaid : Prop := Claim7.holds Tryf.pinned (.plain (OpenSpec.ofChange fnFixParensCollapsesDoubleParensMovingFodderSpec)) fnFixParensCollapsesDoubleParensMovingFodderCard
/-- ITS FALSE NEIGHBOUR. Refute it at one input. -/
def FnFixParensCollapsesDoubleParensMovingFodderToldWrongFalsely : Prop := Claim7.holds Tryf.pinned (.plain (OpenSpec.ofChange fnFixParensCollapsesDoubleParensMovingFodderWrong)) fnFixParensCollapsesDoubleParensMovingFodderCard

/-- THE TOLD CARD OF 'n008_125.FnIndexIdempotent'. -/
def fnIndexIdempotentCard : Claim7 := { stood := { row := fnIndexIdempotentRow, standIns := [], harness := (true, "4dfaacc545f8c269d53677bc028cc31e8111cc9e78a621cc8696894553c88306"), looks := true }, told := true, goes := false }
def FnIndexIdempotentToldSaid : Prop := Claim7.holds Tryf.pinned (.plain (OpenSpec.ofChange fnIndexIdempotentSpec)) fnIndexIdempotentCard
/-- ITS FALSE NEIGHBOUR. Refute it at one input. -/
def FnIndexIdempotentToldWrongFalsely : Prop := Claim7.holds Tryf.pinned (.plain (OpenSpec.ofChange fnIndexIdempotentWrong)) fnIndexIdempotentCard

/-- THE TOLD CARD OF 'n008_124.FnFixNewlinesObjectIdempotent'. -/
def fnFixNewlinesObjectIdempotentCard : Claim7 := { stood := { row := fnFixNewlinesObjectIdempotentRow, standIns := [], harness := (true, "4dfaacc545f8c269d53677bc028cc31e8111cc9e78a621cc8696894553c88306"), looks := true }, told := true, goes := false }
def FnFixNewlinesObjectIdempotentToldSaid : Prop := Claim7.holds Tryf.pinned (.plain (OpenSpec.ofChange fnFixNewlinesObjectIdempotentSpec)) fnFixNewlinesObjectIdempotentCard
/-- ITS FALSE NEIGHBOUR. Refute it at one input. -/
def FnFixNewlinesObjectIdempotentToldWrongFalsely : Prop := Claim7.holds Tryf.pinned (.plain (OpenSpec.ofChange fnFixNewlinesObjectIdempotentWrong)) fnFixNewlinesObjectIdempotentCard

/-- THE TOLD CARD OF 'n008_125.FnObjectFieldKindTableExact'. -/
def fnObjectFieldKindTableExactCard : Claim7 := { stood := { row := fnObjectFieldKindTableExactRow, standIns := [], harness := (true, "4dfaacc545f8c269d53677bc028cc31e8111cc9e78a621cc8696894553c88306"), looks := true }, told := true, goes := false }
def FnObjectFieldKindTableExactToldSaid : Prop := Claim7.holds Tryf.pinned (.plain (OpenSpec.ofChange fnObjectFieldKindTableExactSpec)) fnObjectFieldKindTableExactCard
/-- ITS FALSE NEIGHBOUR. Refute it at one input. -/
def FnObjectFieldKindTableExactToldWrongFalsely : Prop := Claim7.holds Tryf.pinned (.plain (OpenSpec.ofChange fnObjectFieldKindTableExactWrong)) fnObjectFieldKindTableExactCard

/-- THE TOLD CARD OF 'n008_125.FnObjectFieldIdempotentMonotone'. -/
def fnObjectFieldIdempotentMonotoneCard : Claim7 := { stood := { row := fnObjectFieldIdempotentMonotoneRow, standIns := [], harness := (true, "4dfaacc545f8c269d53677bc028cc31e8111cc9e78a621cc8696894553c88306"), looks := true }, told := true, goes := false }
def FnObjectFieldIdempotentMonotoneToldSaid : Prop := Claim7.holds Tryf.pinned (.plain (OpenSpec.ofChange fnObjectFieldIdempotentMonotoneSpec)) fnObjectFieldIdempotentMonotoneCard
/-- ITS FALSE NEIGHBOUR. Refute it at one input. -/
def FnObjectFieldIdempotentMonotoneToldWrongFalsely : Prop := Claim7.holds Tryf.pinned (.plain (OpenSpec.ofChange fnObjectFieldIdempotentMonotoneWrong)) fnObjectFieldIdempotentMonotoneCard

/-- THE TOLD CARD OF 'n008_102.FnFixParensHalvesNestingAndKeepsComments'. -/
def fnFixParensHalvesNestingAndKeepsCommentsCard : Claim7 := { stood := { row := fnFixParensHalvesNestingAndKeepsCommentsRow, standIns := [], harness := (true, "4dfaacc545f8c269d53677bc028cc31e8111cc9e78a621cc8696894553c88306"), looks := true }, told := true, goes := false }
def FnFixParensHalvesNestingAndKeepsCommentsToldSaid : Prop := Claim7.holds Tryf.pinned (.plain (OpenSpec.ofChange fnFixParensHalvesNestingAndKeepsCommentsSpec)) fnFixParensHalvesNestingAndKeepsCommentsCard
/-- ITS FALSE NEIGHBOUR. Refute it at one input. -/
def FnFixParensHalvesNestingAndKeepsCommentsToldWrongFalsely : Prop := Claim7.holds Tryf.pinned (.plain (OpenSpec.ofChange fnFixParensHalvesNestingAndKeepsCommentsWrong)) fnFixParensHalvesNestingAndKeepsCommentsCard
end Rows
end Go.Proofs.YtepipmjcfnncdaaFmt
