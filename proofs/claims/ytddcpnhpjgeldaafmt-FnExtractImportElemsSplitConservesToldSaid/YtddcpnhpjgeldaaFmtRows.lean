/-
  No cell of these rows narrows 'for every input' (looked for: loops, veiled, ifaces, maps, wideKeys, modest, calm, conditions, laid).
  DERIVED. THE GIVEN ROWS OF THIS SEAT. 2 by the template 'for every input the law returns true; each argument reads behind the call as it read before'; 0 by the template 'total and deterministic' (their statements: YtddcpnhpjgeldaaFmtTotals.lean).
  GIVEN WITH THE SEED: the statements are not yours to turn. If you find one false, say at which input.
  Laid BY PROGRAM, IN A SANDBOX (cutbox-rows.mjs): the forced cells as the released guide's own fill.sh prints them over the translation 6bb77492ffc401ed… (all of the seat's roots in one cut). By AI agents, Wed Nov 11 2026. No macro, syntax, notation, axiom, sorry.
-/
import Derived.Test.YtddcpnhpjgeldaaFmtChecked
import GoSem.Claim
import GoSem.ClaimJoined
import GoSem.ClaimMapViews
import Derived.JoinedTies
import Derived.KernelRfl
namespace Go.Proofs.YtddcpnhpjgeldaaFmt
/- THE CELL 'sum', in the pinned program and in every row, IS THE sha256 OF THE DUMP (.gsa) THAT YtddcpnhpjgeldaaFmtProg.lean LOADS. Nothing in Lean hashes anything: it is a label: what it is worth is what the hold of that sum in a sandbox is worth. -/
noncomputable def Tryf.pinned : Pinned := { name := "ytddcpnhpjgeldaafmt", sum := "6bb77492ffc401ed2843435f16a311c78cb79f115cc403a830932a28c8ab076c", checked := Tryf.checked }
namespace Rows
def none {H : Type} : Left H := { results := [], args := [] }

/-- 'n008_135.FnExtractImportElemsSplitConserves': WHATEVER THE INPUT: true; the input reads as it did. -/
def fnExtractImportElemsSplitConservesSpec : ChangeSpec := { name := "fnExtractImportElemsSplitConserves", fn := fun _ => fun
  | [d1, d2, d3, d4] => { results := [.lit (.bool true)], args := [d1, d2, d3, d4] }
  | _ => none }
def fnExtractImportElemsSplitConservesRow : OpenClaim := { program := "ytddcpnhpjgeldaafmt", sum := "6bb77492ffc401ed2843435f16a311c78cb79f115cc403a830932a28c8ab076c", func := "github.com/google/go-jsonnet/n008_135.FnExtractImportElemsSplitConserves", spec := "fnExtractImportElemsSplitConserves", stops := ["fmt.Sprintf"], inPlace := ["fmt.Sprintf"], apart := false }
/-- NO THEOREM (fmt's text is open here; it may be false): for the released tool's asking of the row's closed facts alone. THE STATEMENT IS 'FnExtractImportElemsSplitConservesToldSaid' (YtddcpnhpjgeldaaFmtCards.lean). -/
def FnExtractImportElemsSplitConservesFormAsk : Prop := fnExtractImportElemsSplitConservesRow.holds Tryf.pinned (OpenSpec.ofChange fnExtractImportElemsSplitConservesSpec)

/-- ITS FALSE NEIGHBOUR: 'it returns false'. Refute it at one input. -/
def fnExtractImportElemsSplitConservesWrong : ChangeSpec := { name := "fnExtractImportElemsSplitConserves", fn := fun _ => fun
  | [d1, d2, d3, d4] => { results := [.lit (.bool false)], args := [d1, d2, d3, d4] }
  | _ => none }
def FnExtractImportElemsSplitConservesWrongFormAsk : Prop := fnExtractImportElemsSplitConservesRow.holds Tryf.pinned (OpenSpec.ofChange fnExtractImportElemsSplitConservesWrong)

/-- 'n008_135.FnExtractImportElemsEmptyVarFodderExact': WHATEVER THE INPUT: true; the input reads as it did. -/
def fnExtractImportElemsEmptyVarFodderExactSpec : ChangeSpec := { name := "fnExtractImportElemsEmptyVarFodderExact", fn := fun _ => fun
  | [d1, d2, d3] => { results := [.lit (.bool true)], args := [d1, d2, d3] }
  | _ => none }
def fnExtractImportElemsEmptyVarFodderExactRow : OpenClaim := { program := "ytddcpnhpjgeldaafmt", sum := "6bb77492ffc401ed2843435f16a311c78cb79f115cc403a830932a28c8ab076c", func := "github.com/google/go-jsonnet/n008_135.FnExtractImportElemsEmptyVarFodderExact", spec := "fnExtractImportElemsEmptyVarFodderExact", stops := ["fmt.Sprintf"], inPlace := ["fmt.Sprintf"], apart := false }
/-- NO THEOREM (fmt's text is open here; it may be false): for the released tool's asking of the row's closed facts alone. THE STATEMENT IS 'FnExtractImportElemsEmptyVarFodderExactToldSaid' (YtddcpnhpjgeldaaFmtCards.lean). -/
def FnExtractImportElemsEmptyVarFodderExactFormAsk : Prop := fnExtractImportElemsEmptyVarFodderExactRow.holds Tryf.pinned (OpenSpec.ofChange fnExtractImportElemsEmptyVarFodderExactSpec)

/-- ITS FALSE NEIGHBOUR: 'it returns false'. Refute it at one input. -/
def fnExtractImportElemsEmptyVarFodderExactWrong : ChangeSpec := { name := "fnExtractImportElemsEmptyVarFodderExact", fn := fun _ => fun
  | [d1, d2, d3] => { results := [.lit (.bool false)], args := [d1, d2, d3] }
  | _ => none }
def FnExtractImportElemsEmptyVarFodderExactWrongFormAsk : Prop := fnExtractImportElemsEmptyVarFodderExactRow.holds Tryf.pinned (OpenSpec.ofChange fnExtractImportElemsEmptyVarFodderExactWrong)

end Rows
end Go.Proofs.YtddcpnhpjgeldaaFmt
