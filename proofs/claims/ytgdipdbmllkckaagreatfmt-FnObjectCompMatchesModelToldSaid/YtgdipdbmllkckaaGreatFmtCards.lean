/-
  DERIVED. GIVEN WITH THE SEED: THE CARDS: each row of YtgdipdbmllkckaaGreatFmtRows.lean that lists a variable, with what it lists TIED to the program's text (the seventh form; the later family's looks); each row that meets fmt, with fmt's text TOLD by the authors' own Lean function (tested against real Go, not proved from fmt's source: count such statements apart). THE CARD IS WHAT COUNTS. Prove the row's statement (the work); the ties are given (YtgdipdbmllkckaaGreatFmtTie.lean); close each card by the builder's one call (the guide's Derived/Test/ToyasCard.lean, 'card_holds'). Laid BY PROGRAM, IN A SANDBOX (cutbox-door.mjs). By AI agents, Wed Nov 11 2026. No macro, syntax, notation, axiom, sorry.
-/
import Derived.Test.YtgdipdbmllkckaaGreatFmtRows
import GoSem.ClaimSeven
namespace Go.Proofs.YtgdipdbmllkckaaGreatFmt
namespace Rows

/-- THE TOLD CARD OF 'n008_142.FnObjectCompMatchesModel'. -/
def fnObjectCompMatchesModelCard : Claim7 := { stood := { row := fnObjectCompMatchesModelRow, standIns := [], harness := (true, "ab8ac59530d5db76f52235e77eb26b47390e243d242d95e73e0b5bb34b20733b"), looks := true }, told := true, goes := false }
def FnObjectCompMatchesModelToldSaid : Prop := Claim7.holds Tryz.pinned (.plain (OpenSpec.ofChange fnObjectCompMatchesModelSpec)) fnObjectCompMatchesModelCard
/-- ITS FALSE NEIGHBOUR. Refute it at one input. -/
def FnObjectCompMatchesModelToldWrongFalsely : Prop := Claim7.holds Tryz.pinned (.plain (OpenSpec.ofChange fnObjectCompMatchesModelWrong)) fnObjectCompMatchesModelCard
end Rows
end Go.Proofs.YtgdipdbmllkckaaGreatFmt
