/-
  No cell of these rows narrows 'for every input' (looked for: loops, veiled, ifaces, maps, wideKeys, modest, calm, conditions, laid).
  DERIVED. THE GIVEN ROWS OF THIS SEAT. 1 by the template 'for every input the law returns true; each argument reads behind the call as it read before'; 0 by the template 'total and deterministic' (their statements: YtaedhbpfmjiheaaFmtTotals.lean).
  GIVEN WITH THE SEED: the statements are not yours to turn. If you find one false, say at which input.
  Laid BY PROGRAM, IN A SANDBOX (cutbox-rows.mjs): the forced cells as the released guide's own fill.sh prints them over the translation ffc1108f71df69f3… (all of the seat's roots in one cut). By AI agents, Wed Nov 11 2026. No macro, syntax, notation, axiom, sorry.
-/
import Derived.Test.YtaedhbpfmjiheaaFmtChecked
import GoSem.Claim
import GoSem.ClaimJoined
import GoSem.ClaimMapViews
import Derived.JoinedTies
import Derived.KernelRfl
namespace Go.Proofs.YtaedhbpfmjiheaaFmt
/- THE CELL 'sum', in the pinned program and in every row, IS THE sha256 OF THE DUMP (.gsa) THAT YtaedhbpfmjiheaaFmtProg.lean LOADS. Nothing in Lean hashes anything: it is a label: what it is worth is what the hold of that sum in a sandbox is worth. -/
noncomputable def Tryf.pinned : Pinned := { name := "ytaedhbpfmjiheaafmt", sum := "ffc1108f71df69f39f36cdc905b1b1d481d8a2a428017333076d0968d7eb20f1", checked := Tryf.checked }
namespace Rows
def none {H : Type} : Left H := { results := [], args := [] }

/-- 'n008_22.FnRemovePlusRewriteTable': WHATEVER THE INPUT: true; the input reads as it did. -/
def fnRemovePlusRewriteTableSpec : ChangeSpec := { name := "fnRemovePlusRewriteTable", fn := fun _ => fun
  | [d1, d2, d3, d4, d5, d6, d7, d8] => { results := [.lit (.bool true)], args := [d1, d2, d3, d4, d5, d6, d7, d8] }
  | _ => none }
def fnRemovePlusRewriteTableRow : OpenClaim := { program := "ytaedhbpfmjiheaafmt", sum := "ffc1108f71df69f39f36cdc905b1b1d481d8a2a428017333076d0968d7eb20f1", func := "github.com/google/go-jsonnet/n008_22.FnRemovePlusRewriteTable", spec := "fnRemovePlusRewriteTable", stops := ["fmt.Sprintf"], inPlace := ["fmt.Sprintf"], unfollowed := true, recurses := true, apart := false }
/-- NO THEOREM (fmt's text is open here; it may be false): for the released tool's asking of the row's closed facts alone. THE STATEMENT IS 'FnRemovePlusRewriteTableToldSaid' (YtaedhbpfmjiheaaFmtCards.lean). -/
def FnRemovePlusRewriteTableFormAsk : Prop := fnRemovePlusRewriteTableRow.holds Tryf.pinned (OpenSpec.ofChange fnRemovePlusRewriteTableSpec)

/-- ITS FALSE NEIGHBOUR: 'it returns false'. Refute it at one input. -/
def fnRemovePlusRewriteTableWrong : ChangeSpec := { name := "fnRemovePlusRewriteTable", fn := fun _ => fun
  | [d1, d2, d3, d4, d5, d6, d7, d8] => { results := [.lit (.bool false)], args := [d1, d2, d3, d4, d5, d6, d7, d8] }
  | _ => none }
def FnRemovePlusRewriteTableWrongFormAsk : Prop := fnRemovePlusRewriteTableRow.holds Tryf.pinned (OpenSpec.ofChange fnRemovePlusRewriteTableWrong)

end Rows
end Go.Proofs.YtaedhbpfmjiheaaFmt
