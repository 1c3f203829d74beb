/-
  No cell of these rows narrows 'for every input' (looked for: loops, veiled, ifaces, maps, wideKeys, modest, calm, conditions, laid).
  DERIVED. THE GIVEN ROWS OF THIS SEAT. 1 by the template 'for every input the law returns true; each argument reads behind the call as it read before'; 0 by the template 'total and deterministic' (their statements: YtgdipdbmllkckaaFmtTotals.lean).
  GIVEN WITH THE SEED: the statements are not yours to turn. If you find one false, say at which input.
  Laid BY PROGRAM, IN A SANDBOX (cutbox-rows.mjs): the forced cells as the released guide's own fill.sh prints them over the translation 73345605e121e9ba… (all of the seat's roots in one cut). By AI agents, Wed Nov 11 2026. No macro, syntax, notation, axiom, sorry.
-/
import Derived.Test.YtgdipdbmllkckaaFmtChecked
import GoSem.Claim
import GoSem.ClaimJoined
import GoSem.ClaimMapViews
import Derived.JoinedTies
import Derived.KernelRfl
namespace Go.Proofs.YtgdipdbmllkckaaFmt
/- THE CELL 'sum', in the pinned program and in every row, IS THE sha256 OF THE DUMP (.gsa) THAT YtgdipdbmllkckaaFmtProg.lean LOADS. Nothing in Lean hashes anything: it is a label: what it is worth is what the hold of that sum in a sandbox is worth. -/
noncomputable def Tryf.pinned : Pinned := { name := "ytgdipdbmllkckaafmt", sum := "73345605e121e9ba27cf825227e525762837ffa35fc9e715e6d51da35e0cc1d3", checked := Tryf.checked }
namespace Rows
def none {H : Type} : Left H := { results := [], args := [] }

/-- 'n008_142.FnObjectCompAllOrNone': WHATEVER THE INPUT: true; the input reads as it did. -/
def fnObjectCompAllOrNoneSpec : ChangeSpec := { name := "fnObjectCompAllOrNone", fn := fun _ => fun
  | [d1, d2, d3] => { results := [.lit (.bool true)], args := [d1, d2, d3] }
  | _ => none }
def fnObjectCompAllOrNoneRow : OpenClaim := { program := "ytgdipdbmllkckaafmt", sum := "73345605e121e9ba27cf825227e525762837ffa35fc9e715e6d51da35e0cc1d3", func := "github.com/google/go-jsonnet/n008_142.FnObjectCompAllOrNone", spec := "fnObjectCompAllOrNone", stops := ["fmt.Sprintf"], inPlace := ["fmt.Sprintf"], unfollowed := true, recurses := true, apart := false }
/-- NO THEOREM (fmt's text is open here; it may be false): for the released tool's asking of the row's closed facts alone. THE STATEMENT IS 'FnObjectCompAllOrNoneToldSaid' (YtgdipdbmllkckaaFmtCards.lean). -/
def FnObjectCompAllOrNoneFormAsk : Prop := fnObjectCompAllOrNoneRow.holds Tryf.pinned (OpenSpec.ofChange fnObjectCompAllOrNoneSpec)

/-- ITS FALSE NEIGHBOUR: 'it returns false'. Refute it at one input. -/
def fnObjectCompAllOrNoneWrong : ChangeSpec := { name := "fnObjectCompAllOrNone", fn := fun _ => fun
  | [d1, d2, d3] => { results := [.lit (.bool false)], args := [d1, d2, d3] }
  | _ => none }
def FnObjectCompAllOrNoneWrongFormAsk : Prop := fnObjectCompAllOrNoneRow.holds Tryf.pinned (OpenSpec.ofChange fnObjectCompAllOrNoneWrong)

end Rows
end Go.Proofs.YtgdipdbmllkckaaFmt
