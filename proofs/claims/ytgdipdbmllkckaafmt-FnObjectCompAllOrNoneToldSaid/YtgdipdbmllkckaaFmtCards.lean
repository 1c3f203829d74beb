/-
  DERIVED. GIVEN WITH THE SEED: THE CARDS: each row of YtgdipdbmllkckaaFmtRows.lean that lists a variable, with what it lists TIED to the program's text (the seventh form; the later family's looks); each row that meets fmt, with fmt's text TOLD by the authors' own Lean function (tested against real Go, not proved from fmt's source: count such statements apart). THE CARD IS WHAT COUNTS. Prove the row's statement (the work); the ties are given (YtgdipdbmllkckaaFmtTie.lean); close each card by the builder's one call (the guide's Derived/Test/ToyasCard.lean, 'card_holds'). Laid BY PROGRAM, IN A SANDBOX (cutbox-door.mjs). By AI agents, Wed Nov 11 2026. No macro, syntax, notation, axiom, sorry.
-/
import Derived.Test.YtgdipdbmllkckaaFmtRows
import GoSem.ClaimSeven
namespace Go.Proofs.YtgdipdbmllkckaaFmt
namespace Rows

/-- THE TOLD CARD OF 'n008_142.FnObjectCompAllOrNone'. -/
def fnObjectCompAllOrNoneCard : Claim7 := { stood := { row := fnObjectCompAllOrNoneRow, standIns := [], harness := (true, "829ec09c06cb1001ea7dcf1464e58726bb7621b27201716d75e436332240c93a"), looks := true }, told := true, goes := false }
def FnObjectCompAllOrNoneToldSaid : Prop := Claim7.holds Tryf.pinned (.plain (OpenSpec.ofChange fnObjectCompAllOrNoneSpec)) fnObjectCompAllOrNoneCard
/-- ITS FALSE NEIGHBOUR. Refute it at one input. -/
def FnObjectCompAllOrNoneToldWrongFalsely : Prop := Claim7.holds Tryf.pinned (.plain (OpenSpec.ofChange fnObjectCompAllOrNoneWrong)) fnObjectCompAllOrNoneCard
end Rows
end Go.Proofs.YtgdipdbmllkckaaFmt
