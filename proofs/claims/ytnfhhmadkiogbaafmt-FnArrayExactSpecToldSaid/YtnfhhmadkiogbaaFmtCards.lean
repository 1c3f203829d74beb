/-
  DERIVED. GIVEN WITH THE SEED: THE CARDS: each row of YtnfhhmadkiogbaaFmtRows.lean that lists a variable, with what it lists TIED to the program's text (the seventh form; the later family's looks); each row that meets fmt, with fmt's text TOLD by the authors' own Lean function (tested against real Go, not proved from fmt's source: count such statements apart). THE CARD IS WHAT COUNTS. Prove the row's statement (the work); the ties are given (YtnfhhmadkiogbaaFmtTie.lean); close each card by the builder's one call (the guide's Derived/Test/ToyasCard.lean, 'card_holds'). Laid BY PROGRAM, IN A SANDBOX (cutbox-door.mjs). By AI agents, Wed Nov 11 2026. No macro, syntax, notation, axiom, sorry.
-/
import Derived.Test.YtnfhhmadkiogbaaFmtRows
import GoSem.ClaimSeven
namespace Go.Proofs.YtnfhhmadkiogbaaFmt
namespace Rows

/-- THE TOLD CARD OF 'n008_50.FnArrayExactSpec'. -/
def fnArrayExactSpecCard : Claim7 := { stood := { row := fnArrayExactSpecRow, standIns := [], harness := (true, "73be691aa156fc98e2dd32d6c8d8c3d945fd549d4005705f6f61743e3fd396ea"), looks := true }, told := true, goes := false }
def FnArrayExactSpecToldSaid : Prop := Claim7.holds Tryf.pinned (.plain (OpenSpec.ofChange fnArrayExactSpecSpec)) fnArrayExactSpecCard
/-- ITS FALSE NEIGHBOUR. Refute it at one input. -/
def FnArrayExactSpecToldWrongFalsely : Prop := Claim7.holds Tryf.pinned (.plain (OpenSpec.ofChange fnArrayExactSpecWrong)) fnArrayExactSpecCard
end Rows
end Go.Proofs.YtnfhhmadkiogbaaFmt
