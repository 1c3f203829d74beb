/-
  No cell of these rows narrows 'for every input' (looked for: loops, veiled, ifaces, maps, wideKeys, modest, calm, conditions, laid).
  DERIVED. THE GIVEN ROWS OF THIS SEAT. 6 by the template 'for every input the law returns true; each argument reads behind the call as it read before'; 0 by the template 'total and deterministic' (their statements: YtinaihfbakkcmaaFmtTotals.lean).
  GIVEN WITH THE SEED: the statements are not yours to turn. If you find one false, say at which input.
  Laid BY PROGRAM, IN A SANDBOX (cutbox-rows.mjs): the forced cells as the released guide's own fill.sh prints them over the translation f029bee14a2826ba… (all of the seat's roots in one cut). By AI agents, Wed Nov 11 2026. No macro, syntax, notation, axiom, sorry.
-/
import Derived.Test.YtinaihfbakkcmaaFmtChecked
import GoSem.Claim
import GoSem.ClaimJoined
import GoSem.ClaimMapViews
import Derived.JoinedTies
import Derived.KernelRfl
namespace Go.Proofs.YtinaihfbakkcmaaFmt
/- THE CELL 'sum', in the pinned program and in every row, IS THE sha256 OF THE DUMP (.gsa) THAT YtinaihfbakkcmaaFmtProg.lean LOADS. Nothing in Lean hashes anything: it is a label: what it is worth is what the hold of that sum in a sandbox is worth. -/
noncomputable def Tryf.pinned : Pinned := { name := "ytinaihfbakkcmaafmt", sum := "f029bee14a2826ba13db8e8a95bba77864492c3368bac990e6a6c602b534b5fc", checked := Tryf.checked }
namespace Rows
def none {H : Type} : Left H := { results := [], args := [] }

/-- 'n008_50.FnArrayExactSpec': WHATEVER THE INPUT: true; the input reads as it did. -/
def fnArrayExactSpecSpec : ChangeSpec := { name := "fnArrayExactSpec", fn := fun _ => fun
  | [d1, d2, d3, d4, d5] => { results := [.lit (.bool true)], args := [d1, d2, d3, d4, d5] }
  | _ => none }
def fnArrayExactSpecRow : OpenClaim := { program := "ytinaihfbakkcmaafmt", sum := "f029bee14a2826ba13db8e8a95bba77864492c3368bac990e6a6c602b534b5fc", func := "github.com/google/go-jsonnet/n008_50.FnArrayExactSpec", spec := "fnArrayExactSpec", stops := ["fmt.Sprintf"], inPlace := ["fmt.Sprintf"], unfollowed := true, recurses := true, apart := false }
/-- NO THEOREM (fmt's text is open here; it may be false): for the released tool's asking of the row's closed facts alone. THE STATEMENT IS 'FnArrayExactSpecToldSaid' (YtinaihfbakkcmaaFmtCards.lean). -/
def FnArrayExactSpecFormAsk : Prop := fnArrayExactSpecRow.holds Tryf.pinned (OpenSpec.ofChange fnArrayExactSpecSpec)

/-- ITS FALSE NEIGHBOUR: 'it returns false'. Refute it at one input. -/
def fnArrayExactSpecWrong : ChangeSpec := { name := "fnArrayExactSpec", fn := fun _ => fun
  | [d1, d2, d3, d4, d5] => { results := [.lit (.bool false)], args := [d1, d2, d3, d4, d5] }
  | _ => none }
def FnArrayExactSpecWrongFormAsk : Prop := fnArrayExactSpecRow.holds Tryf.pinned (OpenSpec.ofChange fnArrayExactSpecWrong)

/-- 'n008_50.FnFixCommaIdempotent': WHATEVER THE INPUT: true; the input reads as it did. -/
def fnFixCommaIdempotentSpec : ChangeSpec := { name := "fnFixCommaIdempotent", fn := fun _ => fun
  | [d1, d2, d3] => { results := [.lit (.bool true)], args := [d1, d2, d3] }
  | _ => none }
def fnFixCommaIdempotentRow : OpenClaim := { program := "ytinaihfbakkcmaafmt", sum := "f029bee14a2826ba13db8e8a95bba77864492c3368bac990e6a6c602b534b5fc", func := "github.com/google/go-jsonnet/n008_50.FnFixCommaIdempotent", spec := "fnFixCommaIdempotent", stops := ["fmt.Sprintf"], inPlace := ["fmt.Sprintf"], apart := false }
/-- NO THEOREM (fmt's text is open here; it may be false): for the released tool's asking of the row's closed facts alone. THE STATEMENT IS 'FnFixCommaIdempotentToldSaid' (YtinaihfbakkcmaaFmtCards.lean). -/
def FnFixCommaIdempotentFormAsk : Prop := fnFixCommaIdempotentRow.holds Tryf.pinned (OpenSpec.ofChange fnFixCommaIdempotentSpec)

/-- ITS FALSE NEIGHBOUR: 'it returns false'. Refute it at one input. -/
def fnFixCommaIdempotentWrong : ChangeSpec := { name := "fnFixCommaIdempotent", fn := fun _ => fun
  | [d1, d2, d3] => { results := [.lit (.bool false)], args := [d1, d2, d3] }
  | _ => none }
def FnFixCommaIdempotentWrongFormAsk : Prop := fnFixCommaIdempotentRow.holds Tryf.pinned (OpenSpec.ofChange fnFixCommaIdempotentWrong)

/-- 'n008_50.FnRemoveCommaKeepsLineBreaks': WHATEVER THE INPUT: true; the input reads as it did. -/
def fnRemoveCommaKeepsLineBreaksSpec : ChangeSpec := { name := "fnRemoveCommaKeepsLineBreaks", fn := fun _ => fun
  | [d1, d2, d3] => { results := [.lit (.bool true)], args := [d1, d2, d3] }
  | _ => none }
def fnRemoveCommaKeepsLineBreaksRow : OpenClaim := { program := "ytinaihfbakkcmaafmt", sum := "f029bee14a2826ba13db8e8a95bba77864492c3368bac990e6a6c602b534b5fc", func := "github.com/google/go-jsonnet/n008_50.FnRemoveCommaKeepsLineBreaks", spec := "fnRemoveCommaKeepsLineBreaks", stops := ["fmt.Sprintf"], inPlace := ["fmt.Sprintf"], apart := false }
/-- NO THEOREM (fmt's text is open here; it may be false): for the released tool's asking of the row's closed facts alone. THE STATEMENT IS 'FnRemoveCommaKeepsLineBreaksToldSaid' (YtinaihfbakkcmaaFmtCards.lean). -/
def FnRemoveCommaKeepsLineBreaksFormAsk : Prop := fnRemoveCommaKeepsLineBreaksRow.holds Tryf.pinned (OpenSpec.ofChange fnRemoveCommaKeepsLineBreaksSpec)

/-- ITS FALSE NEIGHBOUR: 'it returns false'. Refute it at one input. -/
def fnRemoveCommaKeepsLineBreaksWrong : ChangeSpec := { name := "fnRemoveCommaKeepsLineBreaks", fn := fun _ => fun
  | [d1, d2, d3] => { results := [.lit (.bool false)], args := [d1, d2, d3] }
  | _ => none }
def FnRemoveCommaKeepsLineBreaksWrongFormAsk : Prop := fnRemoveCommaKeepsLineBreaksRow.holds Tryf.pinned (OpenSpec.ofChange fnRemoveCommaKeepsLineBreaksWrong)

/-- 'n008_50.FnArrayCompIdempotent': WHATEVER THE INPUT: true; the input reads as it did. -/
def fnArrayCompIdempotentSpec : ChangeSpec := { name := "fnArrayCompIdempotent", fn := fun _ => fun
  | [d1, d2, d3, d4] => { results := [.lit (.bool true)], args := [d1, d2, d3, d4] }
  | _ => none }
def fnArrayCompIdempotentRow : OpenClaim := { program := "ytinaihfbakkcmaafmt", sum := "f029bee14a2826ba13db8e8a95bba77864492c3368bac990e6a6c602b534b5fc", func := "github.com/google/go-jsonnet/n008_50.FnArrayCompIdempotent", spec := "fnArrayCompIdempotent", stops := ["fmt.Sprintf"], inPlace := ["fmt.Sprintf"], unfollowed := true, recurses := true, apart := false }
/-- NO THEOREM (fmt's text is open here; it may be false): for the released tool's asking of the row's closed facts alone. THE STATEMENT IS 'FnArrayCompIdempotentToldSaid' (YtinaihfbakkcmaaFmtCards.lean). -/
def FnArrayCompIdempotentFormAsk : Prop := fnArrayCompIdempotentRow.holds Tryf.pinned (OpenSpec.ofChange fnArrayCompIdempotentSpec)

/-- ITS FALSE NEIGHBOUR: 'it returns false'. Refute it at one input. -/
def fnArrayCompIdempotentWrong : ChangeSpec := { name := "fnArrayCompIdempotent", fn := fun _ => fun
  | [d1, d2, d3, d4] => { results := [.lit (.bool false)], args := [d1, d2, d3, d4] }
  | _ => none }
def FnArrayCompIdempotentWrongFormAsk : Prop := fnArrayCompIdempotentRow.holds Tryf.pinned (OpenSpec.ofChange fnArrayCompIdempotentWrong)

/-- 'n008_50.FnFixCommaExactSpec': WHATEVER THE INPUT: true; the input reads as it did. -/
def fnFixCommaExactSpecSpec : ChangeSpec := { name := "fnFixCommaExactSpec", fn := fun _ => fun
  | [d1, d2, d3] => { results := [.lit (.bool true)], args := [d1, d2, d3] }
  | _ => none }
def fnFixCommaExactSpecRow : OpenClaim := { program := "ytinaihfbakkcmaafmt", sum := "f029bee14a2826ba13db8e8a95bba77864492c3368bac990e6a6c602b534b5fc", func := "github.com/google/go-jsonnet/n008_50.FnFixCommaExactSpec", spec := "fnFixCommaExactSpec", stops := ["fmt.Sprintf"], inPlace := ["fmt.Sprintf"], apart := false }
/-- NO THEOREM (fmt's text is open here; it may be false): for the released tool's asking of the row's closed facts alone. THE STATEMENT IS 'FnFixCommaExactSpecToldSaid' (YtinaihfbakkcmaaFmtCards.lean). -/
def FnFixCommaExactSpecFormAsk : Prop := fnFixCommaExactSpecRow.holds Tryf.pinned (OpenSpec.ofChange fnFixCommaExactSpecSpec)

/-- ITS FALSE NEIGHBOUR: 'it returns false'. Refute it at one input. -/
def fnFixCommaExactSpecWrong : ChangeSpec := { name := "fnFixCommaExactSpec", fn := fun _ => fun
  | [d1, d2, d3] => { results := [.lit (.bool false)], args := [d1, d2, d3] }
  | _ => none }
def FnFixCommaExactSpecWrongFormAsk : Prop := fnFixCommaExactSpecRow.holds Tryf.pinned (OpenSpec.ofChange fnFixCommaExactSpecWrong)

/-- 'n008_50.FnArrayFixesNestedArrays': WHATEVER THE INPUT: true; the input reads as it did. -/
def fnArrayFixesNestedArraysSpec : ChangeSpec := { name := "fnArrayFixesNestedArrays", fn := fun _ => fun
  | [d1, d2, d3, d4, d5, d6] => { results := [.lit (.bool true)], args := [d1, d2, d3, d4, d5, d6] }
  | _ => none }
def fnArrayFixesNestedArraysRow : OpenClaim := { program := "ytinaihfbakkcmaafmt", sum := "f029bee14a2826ba13db8e8a95bba77864492c3368bac990e6a6c602b534b5fc", func := "github.com/google/go-jsonnet/n008_50.FnArrayFixesNestedArrays", spec := "fnArrayFixesNestedArrays", stops := ["fmt.Sprintf"], inPlace := ["fmt.Sprintf"], unfollowed := true, recurses := true, apart := false }
/-- NO THEOREM (fmt's text is open here; it may be false): for the released tool's asking of the row's closed facts alone. THE STATEMENT IS 'FnArrayFixesNestedArraysToldSaid' (YtinaihfbakkcmaaFmtCards.lean). -/
def FnArrayFixesNestedArraysFormAsk : Prop := fnArrayFixesNestedArraysRow.holds Tryf.pinned (OpenSpec.ofChange fnArrayFixesNestedArraysSpec)

/-- ITS FALSE NEIGHBOUR: 'it returns false'. Refute it at one input. -/
def fnArrayFixesNestedArraysWrong : ChangeSpec := { name := "fnArrayFixesNestedArrays", fn := fun _ => fun
  | [d1, d2, d3, d4, d5, d6] => { results := [.lit (.bool false)], args := [d1, d2, d3, d4, d5, d6] }
  | _ => none }
def FnArrayFixesNestedArraysWrongFormAsk : Prop := fnArrayFixesNestedArraysRow.holds Tryf.pinned (OpenSpec.ofChange fnArrayFixesNestedArraysWrong)

end Rows
end Go.Proofs.YtinaihfbakkcmaaFmt
