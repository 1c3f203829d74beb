/-
  No cell of these rows narrows 'for every input' (looked for: loops, veiled, ifaces, maps, wideKeys, modest, calm, conditions, laid).
  DERIVED. THE GIVEN ROWS OF THIS SEAT. 7 by the template 'for every input the law returns true; each argument reads behind the call as it read before'; 0 by the template 'total and deterministic' (their statements: YtgpefdmgcigajaaFmtTotals.lean).
  GIVEN WITH THE SEED: the statements are not yours to turn. If you find one false, say at which input.
  Laid BY PROGRAM, IN A SANDBOX (cutbox-rows.mjs): the forced cells as the released guide's own fill.sh prints them over the translation 670313950ad96e74… (all of the seat's roots in one cut). By AI agents, Wed Nov 11 2026. No macro, syntax, notation, axiom, sorry.
-/
import Derived.Test.YtgpefdmgcigajaaFmtChecked
import GoSem.Claim
import GoSem.ClaimJoined
import GoSem.ClaimMapViews
import Derived.JoinedTies
import Derived.KernelRfl
namespace Go.Proofs.YtgpefdmgcigajaaFmt
/- THE CELL 'sum', in the pinned program and in every row, IS THE sha256 OF THE DUMP (.gsa) THAT YtgpefdmgcigajaaFmtProg.lean LOADS. Nothing in Lean hashes anything: it is a label: what it is worth is what the hold of that sum in a sandbox is worth. -/
noncomputable def Tryf.pinned : Pinned := { name := "ytgpefdmgcigajaafmt", sum := "670313950ad96e7469aa7c0185d90eb51cab92cae10edecbacb321a55dca10e0", checked := Tryf.checked }
namespace Rows
def none {H : Type} : Left H := { results := [], args := [] }

/-- 'n008_142.FnShouldExpandSpecIsAnyNewline': WHATEVER THE INPUT: true; the input reads as it did. -/
def fnShouldExpandSpecIsAnyNewlineSpec : ChangeSpec := { name := "fnShouldExpandSpecIsAnyNewline", fn := fun _ => fun
  | [d] => { results := [.lit (.bool true)], args := [d] }
  | _ => none }
def fnShouldExpandSpecIsAnyNewlineRow : OpenClaim := { program := "ytgpefdmgcigajaafmt", sum := "670313950ad96e7469aa7c0185d90eb51cab92cae10edecbacb321a55dca10e0", func := "github.com/google/go-jsonnet/n008_142.FnShouldExpandSpecIsAnyNewline", spec := "fnShouldExpandSpecIsAnyNewline", stops := ["fmt.Sprintf"], inPlace := ["fmt.Sprintf"], recurses := true, apart := false }
/-- NO THEOREM (fmt's text is open here; it may be false): for the released tool's asking of the row's closed facts alone. THE STATEMENT IS 'FnShouldExpandSpecIsAnyNewlineToldSaid' (YtgpefdmgcigajaaFmtCards.lean). -/
def FnShouldExpandSpecIsAnyNewlineFormAsk : Prop := fnShouldExpandSpecIsAnyNewlineRow.holds Tryf.pinned (OpenSpec.ofChange fnShouldExpandSpecIsAnyNewlineSpec)

/-- ITS FALSE NEIGHBOUR: 'it returns false'. Refute it at one input. -/
def fnShouldExpandSpecIsAnyNewlineWrong : ChangeSpec := { name := "fnShouldExpandSpecIsAnyNewline", fn := fun _ => fun
  | [d] => { results := [.lit (.bool false)], args := [d] }
  | _ => none }
def FnShouldExpandSpecIsAnyNewlineWrongFormAsk : Prop := fnShouldExpandSpecIsAnyNewlineRow.holds Tryf.pinned (OpenSpec.ofChange fnShouldExpandSpecIsAnyNewlineWrong)

/-- 'n008_142.FnEnsureSpecExpandedMatchesModel': WHATEVER THE INPUT: true; the input reads as it did. -/
def fnEnsureSpecExpandedMatchesModelSpec : ChangeSpec := { name := "fnEnsureSpecExpandedMatchesModel", fn := fun _ => fun
  | [d] => { results := [.lit (.bool true)], args := [d] }
  | _ => none }
def fnEnsureSpecExpandedMatchesModelRow : OpenClaim := { program := "ytgpefdmgcigajaafmt", sum := "670313950ad96e7469aa7c0185d90eb51cab92cae10edecbacb321a55dca10e0", func := "github.com/google/go-jsonnet/n008_142.FnEnsureSpecExpandedMatchesModel", spec := "fnEnsureSpecExpandedMatchesModel", stops := ["fmt.Sprintf"], inPlace := ["fmt.Sprintf"], recurses := true, apart := false }
/-- NO THEOREM (fmt's text is open here; it may be false): for the released tool's asking of the row's closed facts alone. THE STATEMENT IS 'FnEnsureSpecExpandedMatchesModelToldSaid' (YtgpefdmgcigajaaFmtCards.lean). -/
def FnEnsureSpecExpandedMatchesModelFormAsk : Prop := fnEnsureSpecExpandedMatchesModelRow.holds Tryf.pinned (OpenSpec.ofChange fnEnsureSpecExpandedMatchesModelSpec)

/-- ITS FALSE NEIGHBOUR: 'it returns false'. Refute it at one input. -/
def fnEnsureSpecExpandedMatchesModelWrong : ChangeSpec := { name := "fnEnsureSpecExpandedMatchesModel", fn := fun _ => fun
  | [d] => { results := [.lit (.bool false)], args := [d] }
  | _ => none }
def FnEnsureSpecExpandedMatchesModelWrongFormAsk : Prop := fnEnsureSpecExpandedMatchesModelRow.holds Tryf.pinned (OpenSpec.ofChange fnEnsureSpecExpandedMatchesModelWrong)

/-- 'n008_142.FnArrayCompAllOrNone': WHATEVER THE INPUT: true; the input reads as it did. -/
def fnArrayCompAllOrNoneSpec : ChangeSpec := { name := "fnArrayCompAllOrNone", fn := fun _ => fun
  | [d1, d2, d3] => { results := [.lit (.bool true)], args := [d1, d2, d3] }
  | _ => none }
def fnArrayCompAllOrNoneRow : OpenClaim := { program := "ytgpefdmgcigajaafmt", sum := "670313950ad96e7469aa7c0185d90eb51cab92cae10edecbacb321a55dca10e0", func := "github.com/google/go-jsonnet/n008_142.FnArrayCompAllOrNone", spec := "fnArrayCompAllOrNone", stops := ["fmt.Sprintf"], inPlace := ["fmt.Sprintf"], unfollowed := true, recurses := true, apart := false }
/-- NO THEOREM (fmt's text is open here; it may be false): for the released tool's asking of the row's closed facts alone. THE STATEMENT IS 'FnArrayCompAllOrNoneToldSaid' (YtgpefdmgcigajaaFmtCards.lean). -/
def FnArrayCompAllOrNoneFormAsk : Prop := fnArrayCompAllOrNoneRow.holds Tryf.pinned (OpenSpec.ofChange fnArrayCompAllOrNoneSpec)

/-- ITS FALSE NEIGHBOUR: 'it returns false'. Refute it at one input. -/
def fnArrayCompAllOrNoneWrong : ChangeSpec := { name := "fnArrayCompAllOrNone", fn := fun _ => fun
  | [d1, d2, d3] => { results := [.lit (.bool false)], args := [d1, d2, d3] }
  | _ => none }
def FnArrayCompAllOrNoneWrongFormAsk : Prop := fnArrayCompAllOrNoneRow.holds Tryf.pinned (OpenSpec.ofChange fnArrayCompAllOrNoneWrong)

/-- 'n008_142.FnEnsureSpecExpandedIsFixedAndReadsExpanded': WHATEVER THE INPUT: true; the input reads as it did. -/
def fnEnsureSpecExpandedIsFixedAndReadsExpandedSpec : ChangeSpec := { name := "fnEnsureSpecExpandedIsFixedAndReadsExpanded", fn := fun _ => fun
  | [d] => { results := [.lit (.bool true)], args := [d] }
  | _ => none }
def fnEnsureSpecExpandedIsFixedAndReadsExpandedRow : OpenClaim := { program := "ytgpefdmgcigajaafmt", sum := "670313950ad96e7469aa7c0185d90eb51cab92cae10edecbacb321a55dca10e0", func := "github.com/google/go-jsonnet/n008_142.FnEnsureSpecExpandedIsFixedAndReadsExpanded", spec := "fnEnsureSpecExpandedIsFixedAndReadsExpanded", stops := ["fmt.Sprintf"], inPlace := ["fmt.Sprintf"], recurses := true, apart := false }
/-- NO THEOREM (fmt's text is open here; it may be false): for the released tool's asking of the row's closed facts alone. THE STATEMENT IS 'FnEnsureSpecExpandedIsFixedAndReadsExpandedToldSaid' (YtgpefdmgcigajaaFmtCards.lean). -/
def FnEnsureSpecExpandedIsFixedAndReadsExpandedFormAsk : Prop := fnEnsureSpecExpandedIsFixedAndReadsExpandedRow.holds Tryf.pinned (OpenSpec.ofChange fnEnsureSpecExpandedIsFixedAndReadsExpandedSpec)

/-- ITS FALSE NEIGHBOUR: 'it returns false'. Refute it at one input. -/
def fnEnsureSpecExpandedIsFixedAndReadsExpandedWrong : ChangeSpec := { name := "fnEnsureSpecExpandedIsFixedAndReadsExpanded", fn := fun _ => fun
  | [d] => { results := [.lit (.bool false)], args := [d] }
  | _ => none }
def FnEnsureSpecExpandedIsFixedAndReadsExpandedWrongFormAsk : Prop := fnEnsureSpecExpandedIsFixedAndReadsExpandedRow.holds Tryf.pinned (OpenSpec.ofChange fnEnsureSpecExpandedIsFixedAndReadsExpandedWrong)

/-- 'n008_142.FnShouldExpandSpecIsOrOverLevels': WHATEVER THE INPUT: true; the input reads as it did. -/
def fnShouldExpandSpecIsOrOverLevelsSpec : ChangeSpec := { name := "fnShouldExpandSpecIsOrOverLevels", fn := fun _ => fun
  | [d] => { results := [.lit (.bool true)], args := [d] }
  | _ => none }
def fnShouldExpandSpecIsOrOverLevelsRow : OpenClaim := { program := "ytgpefdmgcigajaafmt", sum := "670313950ad96e7469aa7c0185d90eb51cab92cae10edecbacb321a55dca10e0", func := "github.com/google/go-jsonnet/n008_142.FnShouldExpandSpecIsOrOverLevels", spec := "fnShouldExpandSpecIsOrOverLevels", stops := ["fmt.Sprintf"], inPlace := ["fmt.Sprintf"], recurses := true, apart := false }
/-- NO THEOREM (fmt's text is open here; it may be false): for the released tool's asking of the row's closed facts alone. THE STATEMENT IS 'FnShouldExpandSpecIsOrOverLevelsToldSaid' (YtgpefdmgcigajaaFmtCards.lean). -/
def FnShouldExpandSpecIsOrOverLevelsFormAsk : Prop := fnShouldExpandSpecIsOrOverLevelsRow.holds Tryf.pinned (OpenSpec.ofChange fnShouldExpandSpecIsOrOverLevelsSpec)

/-- ITS FALSE NEIGHBOUR: 'it returns false'. Refute it at one input. -/
def fnShouldExpandSpecIsOrOverLevelsWrong : ChangeSpec := { name := "fnShouldExpandSpecIsOrOverLevels", fn := fun _ => fun
  | [d] => { results := [.lit (.bool false)], args := [d] }
  | _ => none }
def FnShouldExpandSpecIsOrOverLevelsWrongFormAsk : Prop := fnShouldExpandSpecIsOrOverLevelsRow.holds Tryf.pinned (OpenSpec.ofChange fnShouldExpandSpecIsOrOverLevelsWrong)

/-- 'n008_142.FnArrayCompMatchesModel': WHATEVER THE INPUT: true; the input reads as it did. -/
def fnArrayCompMatchesModelSpec : ChangeSpec := { name := "fnArrayCompMatchesModel", fn := fun _ => fun
  | [d1, d2, d3] => { results := [.lit (.bool true)], args := [d1, d2, d3] }
  | _ => none }
def fnArrayCompMatchesModelRow : OpenClaim := { program := "ytgpefdmgcigajaafmt", sum := "670313950ad96e7469aa7c0185d90eb51cab92cae10edecbacb321a55dca10e0", func := "github.com/google/go-jsonnet/n008_142.FnArrayCompMatchesModel", spec := "fnArrayCompMatchesModel", stops := ["fmt.Sprintf"], inPlace := ["fmt.Sprintf"], unfollowed := true, recurses := true, apart := false }
/-- NO THEOREM (fmt's text is open here; it may be false): for the released tool's asking of the row's closed facts alone. THE STATEMENT IS 'FnArrayCompMatchesModelToldSaid' (YtgpefdmgcigajaaFmtCards.lean). -/
def FnArrayCompMatchesModelFormAsk : Prop := fnArrayCompMatchesModelRow.holds Tryf.pinned (OpenSpec.ofChange fnArrayCompMatchesModelSpec)

/-- ITS FALSE NEIGHBOUR: 'it returns false'. Refute it at one input. -/
def fnArrayCompMatchesModelWrong : ChangeSpec := { name := "fnArrayCompMatchesModel", fn := fun _ => fun
  | [d1, d2, d3] => { results := [.lit (.bool false)], args := [d1, d2, d3] }
  | _ => none }
def FnArrayCompMatchesModelWrongFormAsk : Prop := fnArrayCompMatchesModelRow.holds Tryf.pinned (OpenSpec.ofChange fnArrayCompMatchesModelWrong)

/-- 'n008_142.FnObjectCompAllOrNone': WHATEVER THE INPUT: true; the input reads as it did. -/
def fnObjectCompAllOrNoneSpec : ChangeSpec := { name := "fnObjectCompAllOrNone", fn := fun _ => fun
  | [d1, d2, d3] => { results := [.lit (.bool true)], args := [d1, d2, d3] }
  | _ => none }
def fnObjectCompAllOrNoneRow : OpenClaim := { program := "ytgpefdmgcigajaafmt", sum := "670313950ad96e7469aa7c0185d90eb51cab92cae10edecbacb321a55dca10e0", func := "github.com/google/go-jsonnet/n008_142.FnObjectCompAllOrNone", spec := "fnObjectCompAllOrNone", stops := ["fmt.Sprintf"], inPlace := ["fmt.Sprintf"], unfollowed := true, recurses := true, apart := false }
/-- NO THEOREM (fmt's text is open here; it may be false): for the released tool's asking of the row's closed facts alone. THE STATEMENT IS 'FnObjectCompAllOrNoneToldSaid' (YtgpefdmgcigajaaFmtCards.lean). -/
def FnObjectCompAllOrNoneFormAsk : Prop := fnObjectCompAllOrNoneRow.holds Tryf.pinned (OpenSpec.ofChange fnObjectCompAllOrNoneSpec)

/-- ITS FALSE NEIGHBOUR: 'it returns false'. Refute it at one input. -/
def fnObjectCompAllOrNoneWrong : ChangeSpec := { name := "fnObjectCompAllOrNone", fn := fun _ => fun
  | [d1, d2, d3] => { results := [.lit (.bool false)], args := [d1, d2, d3] }
  | _ => none }
def FnObjectCompAllOrNoneWrongFormAsk : Prop := fnObjectCompAllOrNoneRow.holds Tryf.pinned (OpenSpec.ofChange fnObjectCompAllOrNoneWrong)

end Rows
end Go.Proofs.YtgpefdmgcigajaaFmt
