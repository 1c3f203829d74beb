/-
  DERIVED. GIVEN WITH THE SEED: THE CARDS: each row of YtfacfgecnpeceaaFmtRows.lean that lists a variable, with what it lists TIED to the program's text (the seventh form; the later family's looks); each row that meets fmt, with fmt's text TOLD by the authors' own Lean function (tested against real Go, not proved from fmt's source: count such statements apart). THE CARD IS WHAT COUNTS. Prove the row's statement (the work); the ties are given (YtfacfgecnpeceaaFmtTie.lean); close each card by the builder's one call (the guide's Derived/Test/ToyasCard.lean, 'card_holds'). Laid BY PROGRAM, IN A SANDBOX (cutbox-door.mjs). By AI agents, Wed Nov 11 2026. No macro, syntax, notation, axiom, sorry.
-/
import Derived.Test.YtfacfgecnpeceaaFmtRows
import GoSem.ClaimSeven
namespace Go.Proofs.YtfacfgecnpeceaaFmt
namespace Rows

/-- THE TOLD CARD OF 'n008_124.FnFixNewlinesObjectIdempotent'. -/
def fnFixNewlinesObjectIdempotentCard : Claim7 := { stood := { row := fnFixNewlinesObjectIdempotentRow, standIns := [], harness := (true, "4e03fb327034e11e7ac613a8f17fd2f3dc568d901d46476b434c166534d2d0f9"), looks := true }, told := true, goes := false }
def FnFixNewlinesObjectIdempotentToldSaid : Prop := Claim7.holds Tryf.pinned (.plain (OpenSpec.ofChange fnFixNewlinesObjectIdempotentSpec)) fnFixNewlinesObjectIdempotentCard
/-- ITS FALSE NEIGHBOUR. Refute it at one input. -/
def FnFixNewlinesObjectIdempotentToldWrongFalsely : Prop := Claim7.holds Tryf.pinned (.plain (OpenSpec.ofChange fnFixNewlinesObjectIdempotentWrong)) fnFixNewlinesObjectIdempotentCard
end Rows
end Go.Proofs.YtfacfgecnpeceaaFmt
