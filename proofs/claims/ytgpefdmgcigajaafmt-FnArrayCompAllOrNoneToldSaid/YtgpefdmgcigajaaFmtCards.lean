/-
  DERIVED. GIVEN WITH THE SEED: THE CARDS: each row of YtgpefdmgcigajaaFmtRows.lean that lists a variable, with what it lists TIED to the program's text (the seventh form; the later family's looks); each row that meets fmt, with fmt's text TOLD by the authors' own Lean function (tested against real Go, not proved from fmt's source: count such statements apart). THE CARD IS WHAT COUNTS. Prove the row's statement (the work); the ties are given (YtgpefdmgcigajaaFmtTie.lean); close each card by the builder's one call (the guide's Derived/Test/ToyasCard.lean, 'card_holds'). Laid BY PROGRAM, IN A SANDBOX (cutbox-door.mjs). By AI agents, Wed Nov 11 2026. No macro, syntax, notation, axiom, sorry.
-/
import Derived.Test.YtgpefdmgcigajaaFmtRows
import GoSem.ClaimSeven
namespace Go.Proofs.YtgpefdmgcigajaaFmt
namespace Rows

/-- THE TOLD CARD OF 'n008_142.FnShouldExpandSpecIsAnyNewline'. -/
def fnShouldExpandSpecIsAnyNewlineCard : Claim7 := { stood := { row := fnShouldExpandSpecIsAnyNewlineRow, standIns := [], harness := (true, "888ebb5902b5ae062eb0670805a5342e614e26dca1817bcf4c910f1e682d9ec7"), looks := true }, told := true, goes := false }
def FnShouldExpandSpecIsAnyNewlineToldSaid : Prop := Claim7.holds Tryf.pinned (.plain (OpenSpec.ofChange fnShouldExpandSpecIsAnyNewlineSpec)) fnShouldExpandSpecIsAnyNewlineCard
/-- ITS FALSE NEIGHBOUR. Refute it at one input. -/
def FnShouldExpandSpecIsAnyNewlineToldWrongFalsely : Prop := Claim7.holds Tryf.pinned (.plain (OpenSpec.ofChange fnShouldExpandSpecIsAnyNewlineWrong)) fnShouldExpandSpecIsAnyNewlineCard

/-- THE TOLD CARD OF 'n008_142.FnEnsureSpecExpandedMatchesModel'. -/
def fnEnsureSpecExpandedMatchesModelCard : Claim7 := { stood := { row := fnEnsureSpecExpandedMatchesModelRow, standIns := [], harness := (true, "888ebb5902b5ae062eb0670805a5342e614e26dca1817bcf4c910f1e682d9ec7"), looks := true }, told := true, goes := false }
def FnEnsureSpecExpandedMatchesModelToldSaid : Prop := Claim7.holds Tryf.pinned (.plain (OpenSpec.ofChange fnEnsureSpecExpandedMatchesModelSpec)) fnEnsureSpecExpandedMatchesModelCard
/-- ITS FALSE NEIGHBOUR. Refute it at one input. -/
def FnEnsureSpecExpandedMatchesModelToldWrongFalsely : Prop := Claim7.holds Tryf.pinned (.plain (OpenSpec.ofChange fnEnsureSpecExpandedMatchesModelWrong)) fnEnsureSpecExpandedMatchesModelCard

/-- THE TOLD CARD OF 'n008_142.FnArrayCompAllOrNone'. -/
def fnArrayCompAllOrNoneCard : Claim7 := { stood := { row := fnArrayCompAllOrNoneRow, standIns := [], harness := (true, "888ebb5902b5ae062eb0670805a5342e614e26dca1817bcf4c910f1e682d9ec7"), looks := true }, told := true, goes := false }
def FnArrayCompAllOrNoneToldSaid : Prop := Claim7.holds Tryf.pinned (.plain (OpenSpec.ofChange fnArrayCompAllOrNoneSpec)) fnArrayCompAllOrNoneCard
/-- ITS FALSE NEIGHBOUR. Refute it at one input. -/
def FnArrayCompAllOrNoneToldWrongFalsely : Prop := Claim7.holds Tryf.pinned (.plain (OpenSpec.ofChange fnArrayCompAllOrNoneWrong)) fnArrayCompAllOrNoneCard

/-- THE TOLD CARD OF 'n008_142.FnEnsureSpecExpandedIsFixedAndReadsExpanded'. -/
def fnEnsureSpecExpandedIsFixedAndReadsExpandedCard : Claim7 := { stood := { row := fnEnsureSpecExpandedIsFixedAndReadsExpandedRow, standIns := [], harness := (true, "888ebb5902b5ae062eb0670805a5342e614e26dca1817bcf4c910f1e682d9ec7"), looks := true }, told := true, goes := false }
def FnEnsureSpecExpandedIsFixedAndReadsExpandedToldSaid : Prop := Claim7.holds Tryf.pinned (.plain (OpenSpec.ofChange fnEnsureSpecExpandedIsFixedAndReadsExpandedSpec)) fnEnsureSpecExpandedIsFixedAndReadsExpandedCard
/-- ITS FALSE NEIGHBOUR. Refute it at one input. -/
def FnEnsureSpecExpandedIsFixedAndReadsExpandedToldWrongFalsely : Prop := Claim7.holds Tryf.pinned (.plain (OpenSpec.ofChange fnEnsureSpecExpandedIsFixedAndReadsExpandedWrong)) fnEnsureSpecExpandedIsFixedAndReadsExpandedCard

/-- THE TOLD CARD OF 'n008_142.FnShouldExpandSpecIsOrOverLevels'. -/
def fnShouldExpandSpecIsOrOverLevelsCard : Claim7 := { stood := { row := fnShouldExpandSpecIsOrOverLevelsRow, standIns := [], harness := (true, "888ebb5902b5ae062eb0670805a5342e614e26dca1817bcf4c910f1e682d9ec7"), looks := true }, told := true, goes := false }
def FnShouldExpandSpecIsOrOverLevelsToldSaid : Prop := Claim7.holds Tryf.pinned (.plain (OpenSpec.ofChange fnShouldExpandSpecIsOrOverLevelsSpec)) fnShouldExpandSpecIsOrOverLevelsCard
/-- ITS FALSE NEIGHBOUR. Refute it at one input. -/
def FnShouldExpandSpecIsOrOverLevelsToldWrongFalsely : Prop := Claim7.holds Tryf.pinned (.plain (OpenSpec.ofChange fnShouldExpandSpecIsOrOverLevelsWrong)) fnShouldExpandSpecIsOrOverLevelsCard

/-- THE TOLD CARD OF 'n008_142.FnArrayCompMatchesModel'. -/
def fnArrayCompMatchesModelCard : Claim7 := { stood := { row := fnArrayCompMatchesModelRow, standIns := [], harness := (true, "888ebb5902b5ae062eb0670805a5342e614e26dca1817bcf4c910f1e682d9ec7"), looks := true }, told := true, goes := false }
def FnArrayCompMatchesModelToldSaid : Prop := Claim7.holds Tryf.pinned (.plain (OpenSpec.ofChange fnArrayCompMatchesModelSpec)) fnArrayCompMatchesModelCard
/-- ITS FALSE NEIGHBOUR. Refute it at one input. -/
def FnArrayCompMatchesModelToldWrongFalsely : Prop := Claim7.holds Tryf.pinned (.plain (OpenSpec.ofChange fnArrayCompMatchesModelWrong)) fnArrayCompMatchesModelCard

/-- THE TOLD CARD OF 'n008_142.FnObjectCompAllOrNone'. -/
def fnObjectCompAllOrNoneCard : Claim7 := { stood := { row := fnObjectCompAllOrNoneRow, standIns := [], harness := (true, "888ebb5902b5ae062eb0670805a5342e614e26dca1817bcf4c910f1e682d9ec7"), looks := true }, told := true, goes := false }
def FnObjectCompAllOrNoneToldSaid : Prop := Claim7.holds Tryf.pinned (.plain (OpenSpec.ofChange fnObjectCompAllOrNoneSpec)) fnObjectCompAllOrNoneCard
/-- ITS FALSE NEIGHBOUR. Refute it at one input. -/
def FnObjectCompAllOrNoneToldWrongFalsely : Prop := Claim7.holds Tryf.pinned (.plain (OpenSpec.ofChange fnObjectCompAllOrNoneWrong)) fnObjectCompAllOrNoneCard
end Rows
end Go.Proofs.YtgpefdmgcigajaaFmt
