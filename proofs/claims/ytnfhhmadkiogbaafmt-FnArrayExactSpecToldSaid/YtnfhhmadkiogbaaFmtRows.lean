/-
  No cell of these rows narrows 'for every input' (looked for: loops, veiled, ifaces, maps, wideKeys, modest, calm, conditions, laid).
  DERIVED. THE GIVEN ROWS OF THIS SEAT. 1 by the template 'for every input the law returns true; each argument reads behind the call as it read before'; 0 by the template 'total and deterministic' (their statements: YtnfhhmadkiogbaaFmtTotals.lean).
  GIVEN WITH THE SEED: the statements are not yours to turn. If you find one false, say at which input.
  Laid BY PROGRAM, IN A SANDBOX (cutbox-rows.mjs): the forced cells as the released guide's own fill.sh prints them over the translation e2621e5acf948ded… (all of the seat's roots in one cut). By AI agents, Wed Nov 11 2026. No macro, syntax, notation, axiom, sorry.
-/
import Derived.Test.YtnfhhmadkiogbaaFmtChecked
import GoSem.Claim
import GoSem.ClaimJoined
import GoSem.ClaimMapViews
import Derived.JoinedTies
import Derived.KernelRfl
namespace Go.Proofs.YtnfhhmadkiogbaaFmt
/- THE CELL 'sum', in the pinned program and in every row, IS THE sha256 OF THE DUMP (.gsa) THAT YtnfhhmadkiogbaaFmtProg.lean LOADS. Nothing in Lean hashes anything: it is a label: what it is worth is what the hold of that sum in a sandbox is worth. -/
noncomputable def Tryf.pinned : Pinned := { name := "ytnfhhmadkiogbaafmt", sum := "e2621e5acf948dedfbb3dd032e2b22aa03192862d386bd54483febdd666542e0", checked := Tryf.checked }
namespace Rows
def none {H : Type} : Left H := { results := [], args := [] }

/-- 'n008_50.FnArrayExactSpec': WHATEVER THE INPUT: true; the input reads as it did. -/
def fnArrayExactSpecSpec : ChangeSpec := { name := "fnArrayExactSpec", fn := fun _ => fun
  | [d1, d2, d3, d4, d5] => { results := [.lit (.bool true)], args := [d1, d2, d3, d4, d5] }
  | _ => none }
def fnArrayExactSpecRow : OpenClaim := { program := "ytnfhhmadkiogbaafmt", sum := "e2621e5acf948dedfbb3dd032e2b22aa03192862d386bd54483febdd666542e0", func := "github.com/google/go-jsonnet/n008_50.FnArrayExactSpec", spec := "fnArrayExactSpec", stops := ["fmt.Sprintf"], inPlace := ["fmt.Sprintf"], unfollowed := true, recurses := true, apart := false }
/-- NO THEOREM (fmt's text is open here; it may be false): for the released tool's asking of the row's closed facts alone. THE STATEMENT IS 'FnArrayExactSpecToldSaid' (YtnfhhmadkiogbaaFmtCards.lean). -/
def FnArrayExactSpecFormAsk : Prop := fnArrayExactSpecRow.holds Tryf.pinned (OpenSpec.ofChange fnArrayExactSpecSpec)

/-- ITS FALSE NEIGHBOUR: 'it returns false'. Refute it at one input. -/
def fnArrayExactSpecWrong : ChangeSpec := { name := "fnArrayExactSpec", fn := fun _ => fun
  | [d1, d2, d3, d4, d5] => { results := [.lit (.bool false)], args := [d1, d2, d3, d4, d5] }
  | _ => none }
def FnArrayExactSpecWrongFormAsk : Prop := fnArrayExactSpecRow.holds Tryf.pinned (OpenSpec.ofChange fnArrayExactSpecWrong)

end Rows
end Go.Proofs.YtnfhhmadkiogbaaFmt
