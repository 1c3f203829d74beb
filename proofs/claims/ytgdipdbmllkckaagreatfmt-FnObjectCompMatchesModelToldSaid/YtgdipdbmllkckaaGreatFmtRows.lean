/-
  No cell of these rows narrows 'for every input' (looked for: loops, veiled, ifaces, maps, wideKeys, modest, calm, conditions, laid).
  DERIVED. THE GIVEN ROWS OF THIS SEAT. 1 by the template 'for every input the law returns true; each argument reads behind the call as it read before'; 0 by the template 'total and deterministic' (their statements: YtgdipdbmllkckaaGreatFmtTotals.lean).
  GIVEN WITH THE SEED: the statements are not yours to turn. If you find one false, say at which input.
  Laid BY PROGRAM, IN A SANDBOX (cutbox-rows.mjs): the forced cells as the released guide's own fill.sh prints them over the translation 5a6cbdd1f29a08e1… (all of the seat's roots in one cut). By AI agents, Wed Nov 11 2026. No macro, syntax, notation, axiom, sorry.
-/
import Derived.Test.YtgdipdbmllkckaaGreatFmtChecked
import GoSem.Claim
import GoSem.ClaimJoined
import GoSem.ClaimMapViews
import Derived.JoinedTies
import Derived.KernelRfl
namespace Go.Proofs.YtgdipdbmllkckaaGreatFmt
/- THE CELL 'sum', in the pinned program and in every row, IS THE sha256 OF THE DUMP (.gsa) THAT YtgdipdbmllkckaaGreatFmtProg.lean LOADS. Nothing in Lean hashes anything: it is a label: what it is worth is what the hold of that sum in a sandbox is worth. -/
noncomputable def Tryz.pinned : Pinned := { name := "ytgdipdbmllkckaagreatfmt", sum := "5a6cbdd1f29a08e18138a583c5789bc3dd7917f95200689c2f9724ef9f8d6861", checked := Tryz.checked }
namespace Rows
def none {H : Type} : Left H := { results := [], args := [] }

/-- 'n008_142.FnObjectCompMatchesModel': WHATEVER THE INPUT: true; the input reads as it did. -/
def fnObjectCompMatchesModelSpec : ChangeSpec := { name := "fnObjectCompMatchesModel", fn := fun _ => fun
  | [d1, d2, d3] => { results := [.lit (.bool true)], args := [d1, d2, d3] }
  | _ => none }
def fnObjectCompMatchesModelRow : OpenClaim := { program := "ytgdipdbmllkckaagreatfmt", sum := "5a6cbdd1f29a08e18138a583c5789bc3dd7917f95200689c2f9724ef9f8d6861", func := "github.com/google/go-jsonnet/n008_142.FnObjectCompMatchesModel", spec := "fnObjectCompMatchesModel", stops := ["fmt.Sprintf"], inPlace := ["fmt.Sprintf"], unfollowed := true, recurses := true, apart := false }
/-- NO THEOREM (fmt's text is open here; it may be false): for the released tool's asking of the row's closed facts alone. THE STATEMENT IS 'FnObjectCompMatchesModelToldSaid' (YtgdipdbmllkckaaGreatFmtCards.lean). -/
def FnObjectCompMatchesModelFormAsk : Prop := fnObjectCompMatchesModelRow.holds Tryz.pinned (OpenSpec.ofChange fnObjectCompMatchesModelSpec)

/-- ITS FALSE NEIGHBOUR: 'it returns false'. Refute it at one input. -/
def fnObjectCompMatchesModelWrong : ChangeSpec := { name := "fnObjectCompMatchesModel", fn := fun _ => fun
  | [d1, d2, d3] => { results := [.lit (.bool false)], args := [d1, d2, d3] }
  | _ => none }
def FnObjectCompMatchesModelWrongFormAsk : Prop := fnObjectCompMatchesModelRow.holds Tryz.pinned (OpenSpec.ofChange fnObjectCompMatchesModelWrong)

end Rows
end Go.Proofs.YtgdipdbmllkckaaGreatFmt
