/-
  No cell of these rows narrows 'for every input' (looked for: loops, veiled, ifaces, maps, wideKeys, modest, calm, conditions, laid).
  DERIVED. THE GIVEN ROWS OF THIS SEAT. 1 by the template 'for every input the law returns true; each argument reads behind the call as it read before'; 0 by the template 'total and deterministic' (their statements: YtfacfgecnpeceaaFmtTotals.lean).
  GIVEN WITH THE SEED: the statements are not yours to turn. If you find one false, say at which input.
  Laid BY PROGRAM, IN A SANDBOX (cutbox-rows.mjs): the forced cells as the released guide's own fill.sh prints them over the translation eab5269b41a46b1d… (all of the seat's roots in one cut). By AI agents, Wed Nov 11 2026. No macro, syntax, notation, axiom, sorry.
-/
import Derived.Test.YtfacfgecnpeceaaFmtChecked
import GoSem.Claim
import GoSem.ClaimJoined
import GoSem.ClaimMapViews
import Derived.JoinedTies
import Derived.KernelRfl
namespace Go.Proofs.YtfacfgecnpeceaaFmt
/- THE CELL 'sum', in the pinned program and in every row, IS THE sha256 OF THE DUMP (.gsa) THAT YtfacfgecnpeceaaFmtProg.lean LOADS. Nothing in Lean hashes anything: it is a label: what it is worth is what the hold of that sum in a sandbox is worth. -/
noncomputable def Tryf.pinned : Pinned := { name := "ytfacfgecnpeceaafmt", sum := "eab5269b41a46b1db6979241e1c816fddc8bb53ae7dcd02db560c4b2cf4aefbd", checked := Tryf.checked }
namespace Rows
def none {H : Type} : Left H := { results := [], args := [] }

/-- 'n008_124.FnFixNewlinesObjectIdempotent': WHATEVER THE INPUT: true; the input reads as it did. -/
def fnFixNewlinesObjectIdempotentSpec : ChangeSpec := { name := "fnFixNewlinesObjectIdempotent", fn := fun _ => fun
  | [d1, d2] => { results := [.lit (.bool true)], args := [d1, d2] }
  | _ => none }
def fnFixNewlinesObjectIdempotentRow : OpenClaim := { program := "ytfacfgecnpeceaafmt", sum := "eab5269b41a46b1db6979241e1c816fddc8bb53ae7dcd02db560c4b2cf4aefbd", func := "github.com/google/go-jsonnet/n008_124.FnFixNewlinesObjectIdempotent", spec := "fnFixNewlinesObjectIdempotent", stops := ["fmt.Sprintf"], inPlace := ["fmt.Sprintf"], unfollowed := true, recurses := true, apart := false }
/-- NO THEOREM (fmt's text is open here; it may be false): for the released tool's asking of the row's closed facts alone. THE STATEMENT IS 'FnFixNewlinesObjectIdempotentToldSaid' (YtfacfgecnpeceaaFmtCards.lean). -/
def FnFixNewlinesObjectIdempotentFormAsk : Prop := fnFixNewlinesObjectIdempotentRow.holds Tryf.pinned (OpenSpec.ofChange fnFixNewlinesObjectIdempotentSpec)

/-- ITS FALSE NEIGHBOUR: 'it returns false'. Refute it at one input. -/
def fnFixNewlinesObjectIdempotentWrong : ChangeSpec := { name := "fnFixNewlinesObjectIdempotent", fn := fun _ => fun
  | [d1, d2] => { results := [.lit (.bool false)], args := [d1, d2] }
  | _ => none }
def FnFixNewlinesObjectIdempotentWrongFormAsk : Prop := fnFixNewlinesObjectIdempotentRow.holds Tryf.pinned (OpenSpec.ofChange fnFixNewlinesObjectIdempotentWrong)

end Rows
end Go.Proofs.YtfacfgecnpeceaaFmt
