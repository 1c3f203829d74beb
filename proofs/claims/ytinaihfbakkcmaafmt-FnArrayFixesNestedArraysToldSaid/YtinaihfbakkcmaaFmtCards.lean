/-
  DERIVED. GIVEN WITH THE SEED: THE CARDS: each row of YtinaihfbakkcmaaFmtRows.lean that lists a variable, with what it lists TIED to the program's text (the seventh form; the later family's looks); each row that meets fmt, with fmt's text TOLD by the authors' own Lean function (tested against real Go, not proved from fmt's source: count such statements apart). THE CARD IS WHAT COUNTS. Prove the row's statement (the work); the ties are given (YtinaihfbakkcmaaFmtTie.lean); close each card by the builder's one call (the guide's Derived/Test/ToyasCard.lean, 'card_holds'). Laid BY PROGRAM, IN A SANDBOX (cutbox-door.mjs). By AI agents, Wed Nov 11 2026. No macro, syntax, notation, axiom, sorry.
-/
import Derived.Test.YtinaihfbakkcmaaFmtRows
import GoSem.ClaimSeven
namespace Go.Proofs.YtinaihfbakkcmaaFmt
namespace Rows

/-- THE TOLD CARD OF 'n008_50.FnArrayExactSpec'. -/
def fnArrayExactSpecCard : Claim7 := { stood := { row := fnArrayExactSpecRow, standIns := [], harness := (true, "5bdd18d98c7994d84ed68481ed11d74aa23d5c70e92b0a7781d8dc03700a1fe9"), looks := true }, told := true, goes := false }
def FnArrayExactSpecToldSaid : Prop := Claim7.holds Tryf.pinned (.plain (OpenSpec.ofChange fnArrayExactSpecSpec)) fnArrayExactSpecCard
/-- ITS FALSE NEIGHBOUR. Refute it at one input. -/
def FnArrayExactSpecToldWrongFalsely : Prop := Claim7.holds Tryf.pinned (.plain (OpenSpec.ofChange fnArrayExactSpecWrong)) fnArrayExactSpecCard

/-- THE TOLD CARD OF 'n008_50.FnFixCommaIdempotent'. -/
def fnFixCommaIdempotentCard : Claim7 := { stood := { row := fnFixCommaIdempotentRow, standIns := [], harness := (true, "5bdd18d98c7994d84ed68481ed11d74aa23d5c70e92b0a7781d8dc03700a1fe9"), looks := true }, told := true, goes := false }
def FnFixCommaIdempotentToldSaid : Prop := Claim7.holds Tryf.pinned (.plain (OpenSpec.ofChange fnFixCommaIdempotentSpec)) fnFixCommaIdempotentCard
/-- ITS FALSE NEIGHBOUR. Refute it at one input. -/
def FnFixCommaIdempotentToldWrongFalsely : Prop := Claim7.holds Tryf.pinned (.plain (OpenSpec.ofChange fnFixCommaIdempotentWrong)) fnFixCommaIdempotentCard

/-- THE TOLD CARD OF 'n008_50.FnRemoveCommaKeepsLineBreaks'. -/
def fnRemoveCommaKeepsLineBreaksCard : Claim7 := { stood := { row := fnRemoveCommaKeepsLineBreaksRow, standIns := [], harness := (true, "5bdd18d98c7994d84ed68481ed11d74aa23d5c70e92b0a7781d8dc03700a1fe9"), looks := true }, told := true, goes := false }
def FnRemoveCommaKeepsLineBreaksToldSaid : Prop := Claim7.holds Tryf.pinned (.plain (OpenSpec.ofChange fnRemoveCommaKeepsLineBreaksSpec)) fnRemoveCommaKeepsLineBreaksCard
/-- ITS FALSE NEIGHBOUR. Refute it at one input. -/
def FnRemoveCommaKeepsLineBreaksToldWrongFalsely : Prop := Claim7.holds Tryf.pinned (.plain (OpenSpec.ofChange fnRemoveCommaKeepsLineBreaksWrong)) fnRemoveCommaKeepsLineBreaksCard

/-- THE TOLD CARD OF 'n008_50.FnArrayCompIdempotent'. -/
def fnArrayCompIdempotentCard : Claim7 := { stood := { row := fnArrayCompIdempotentRow, standIns := [], harness := (true, "5bdd18d98c7994d84ed68481ed11d74aa23d5c70e92b0a7781d8dc03700a1fe9"), looks := true }, told := true, goes := false }
def FnArrayCompIdempotentToldSaid : Prop := Claim7.holds Tryf.pinned (.plain (OpenSpec.ofChange fnArrayCompIdempotentSpec)) fnArrayCompIdempotentCard
/-- ITS FALSE NEIGHBOUR. Refute it at one input. -/
def FnArrayCompIdempotentToldWrongFalsely : Prop := Claim7.holds Tryf.pinned (.plain (OpenSpec.ofChange fnArrayCompIdempotentWrong)) fnArrayCompIdempotentCard

/-- THE TOLD CARD OF 'n008_50.FnFixCommaExactSpec'. -/
def fnFixCommaExactSpecCard : Claim7 := { stood := { row := fnFixCommaExactSpecRow, standIns := [], harness := (true, "5bdd18d98c7994d84ed68481ed11d74aa23d5c70e92b0a7781d8dc03700a1fe9"), looks := true }, told := true, goes := false }
def FnFixCommaExactSpecToldSaid : Prop := Claim7.holds Tryf.pinned (.plain (OpenSpec.ofChange fnFixCommaExactSpecSpec)) fnFixCommaExactSpecCard
/-- ITS FALSE NEIGHBOUR. Refute it at one input. -/
def FnFixCommaExactSpecToldWrongFalsely : Prop := Claim7.holds Tryf.pinned (.plain (OpenSpec.ofChange fnFixCommaExactSpecWrong)) fnFixCommaExactSpecCard

/-- THE TOLD CARD OF 'n008_50.FnArrayFixesNestedArrays'. -/
def fnArrayFixesNestedArraysCard : Claim7 := { stood := { row := fnArrayFixesNestedArraysRow, standIns := [], harness := (true, "5bdd18d98c7994d84ed68481ed11d74aa23d5c70e92b0a7781d8dc03700a1fe9"), looks := true }, told := true, goes := false }
def FnArrayFixesNestedArraysToldSaid : Prop := Claim7.holds Tryf.pinned (.plain (OpenSpec.ofChange fnArrayFixesNestedArraysSpec)) fnArrayFixesNestedArraysCard
/-- ITS FALSE NEIGHBOUR. Refute it at one input. -/
def FnArrayFixesNestedArraysToldWrongFalsely : Prop := Claim7.holds Tryf.pinned (.plain (OpenSpec.ofChange fnArrayFixesNestedArraysWrong)) fnArrayFixesNestedArraysCard
end Rows
end Go.Proofs.YtinaihfbakkcmaaFmt
