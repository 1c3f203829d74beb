/-
  DERIVED. GIVEN WITH THE SEED: THE CARDS: each row of YtaedhbpfmjiheaaFmtRows.lean that lists a variable, with what it lists TIED to the program's text (the seventh form; the later family's looks); each row that meets fmt, with fmt's text TOLD by the authors' own Lean function (tested against real Go, not proved from fmt's source: count such statements apart). THE CARD IS WHAT COUNTS. Prove the row's statement (the work); the ties are given (YtaedhbpfmjiheaaFmtTie.lean); close each card by the builder's one call (the guide's Derived/Test/ToyasCard.lean, 'card_holds'). Laid BY PROGRAM, IN A SANDBOX (cutbox-door.mjs). By AI agents, Wed Nov 11 2026. No macro, syntax, notation, axiom, sorry.
-/
import Derived.Test.YtaedhbpfmjiheaaFmtRows
import GoSem.ClaimSeven
namespace Go.Proofs.YtaedhbpfmjiheaaFmt
namespace Rows

/-- THE TOLD CARD OF 'n008_22.FnRemovePlusRewriteTable'. -/
def fnRemovePlusRewriteTableCard : Claim7 := { stood := { row := fnRemovePlusRewriteTableRow, standIns := [], harness := (true, "0231dbe2bfeccc07087b804ac83c7dd2e95779de48ab0134cda618aa24919ff7"), looks := true }, told := true, goes := false }
def FnRemovePlusRewriteTableToldSaid : Prop := Claim7.holds Tryf.pinned (.plain (OpenSpec.ofChange fnRemovePlusRewriteTableSpec)) fnRemovePlusRewriteTableCard
/-- ITS FALSE NEIGHBOUR. Refute it at one input. -/
def FnRemovePlusRewriteTableToldWrongFalsely : Prop := Claim7.holds Tryf.pinned (.plain (OpenSpec.ofChange fnRemovePlusRewriteTableWrong)) fnRemovePlusRewriteTableCard
end Rows
end Go.Proofs.YtaedhbpfmjiheaaFmt
