/-
  DERIVED. GIVEN WITH THE SEED: THE CARDS: each row of YtddcpnhpjgeldaaFmtRows.lean that lists a variable, with what it lists TIED to the program's text (the seventh form; the later family's looks); each row that meets fmt, with fmt's text TOLD by the authors' own Lean function (tested against real Go, not proved from fmt's source: count such statements apart). THE CARD IS WHAT COUNTS. Prove the row's statement (the work); the ties are given (YtddcpnhpjgeldaaFmtTie.lean); close each card by the builder's one call (the guide's Derived/Test/ToyasCard.lean, 'card_holds'). Laid BY PROGRAM, IN A SANDBOX (cutbox-door.mjs). By AI agents, Wed Nov 11 2026. No macro, syntax, notation, axiom, sorry.
-/
import Derived.Test.YtddcpnhpjgeldaaFmtRows
import GoSem.ClaimSeven
namespace Go.Proofs.YtddcpnhpjgeldaaFmt
namespace Rows

/-- THE TOLD CARD OF 'n008_135.FnExtractImportElemsSplitConserves'. -/
def fnExtractImportElemsSplitConservesCard : Claim7 := { stood := { row := fnExtractImportElemsSplitConservesRow, standIns := [], harness := (true, "cc5a90c5c6c4a009e7ca5cbfd513f820c473bd1d0ecef2534787687df397aece"), looks := true }, told := true, goes := false }
def FnExtractImportElemsSplitConservesToldSaid : Prop := Claim7.holds Tryf.pinned (.plain (OpenSpec.ofChange fnExtractImportElemsSplitConservesSpec)) fnExtractImportElemsSplitConservesCard
/-- ITS FALSE NEIGHBOUR. Refute it at one input. -/
def FnExtractImportElemsSplitConservesToldWrongFalsely : Prop := Claim7.holds Tryf.pinned (.plain (OpenSpec.ofChange fnExtractImportElemsSplitConservesWrong)) fnExtractImportElemsSplitConservesCard

/-- THE TOLD CARD OF 'n008_135.FnExtractImportElemsEmptyVarFodderExact'. -/
def fnExtractImportElemsEmptyVarFodderExactCard : Claim7 := { stood := { row := fnExtractImportElemsEmptyVarFodderExactRow, standIns := [], harness := (true, "cc5a90c5c6c4a009e7ca5cbfd513f820c473bd1d0ecef2534787687df397aece"), looks := true }, told := true, goes := false }
def FnExtractImportElemsEmptyVarFodderExactToldSaid : Prop := Claim7.holds Tryf.pinned (.plain (OpenSpec.ofChange fnExtractImportElemsEmptyVarFodderExactSpec)) fnExtractImportElemsEmptyVarFodderExactCard
/-- ITS FALSE NEIGHBOUR. Refute it at one input. -/
def FnExtractImportElemsEmptyVarFodderExactToldWrongFalsely : Prop := Claim7.holds Tryf.pinned (.plain (OpenSpec.ofChange fnExtractImportElemsEmptyVarFodderExactWrong)) fnExtractImportElemsEmptyVarFodderExactCard
end Rows
end Go.Proofs.YtddcpnhpjgeldaaFmt
