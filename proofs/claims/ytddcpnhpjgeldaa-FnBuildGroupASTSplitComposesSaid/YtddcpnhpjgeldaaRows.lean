/-
  No cell of these rows narrows 'for every input' (looked for: loops, veiled, ifaces, maps, wideKeys, modest, calm, conditions, laid).
  DERIVED. THE GIVEN ROWS OF THIS SEAT. 6 by the template 'for every input the law returns true; each argument reads behind the call as it read before'; 0 by the template 'total and deterministic' (their statements: YtddcpnhpjgeldaaTotals.lean).
  GIVEN WITH THE SEED: the statements are not yours to turn. If you find one false, say at which input.
  Laid BY PROGRAM, IN A SANDBOX (cutbox-rows.mjs): the forced cells as the released guide's own fill.sh prints them over the translation 91d3f74c169efa6f… (all of the seat's roots in one cut). By AI agents, Wed Nov 11 2026. No macro, syntax, notation, axiom, sorry.
-/
import Derived.Test.YtddcpnhpjgeldaaChecked
import GoSem.Claim
import GoSem.ClaimJoined
import GoSem.ClaimMapViews
import Derived.JoinedTies
import Derived.KernelRfl
namespace Go.Proofs.Ytddcpnhpjgeldaa
/- THE CELL 'sum', in the pinned program and in every row, IS THE sha256 OF THE DUMP (.gsa) THAT YtddcpnhpjgeldaaProg.lean LOADS. Nothing in Lean hashes anything: it is a label: what it is worth is what the hold of that sum in a sandbox is worth. -/
noncomputable def Try.pinned : Pinned := { name := "ytddcpnhpjgeldaa", sum := "91d3f74c169efa6fa144301222974f2a4b40d70e31efbd03c90c14614be05c61", checked := Try.checked }
namespace Rows
def none {H : Type} : Left H := { results := [], args := [] }

/-- 'n008_135.FnGroupEndsAfterTailMonotoneAndSameLineCommentNeutral': WHATEVER THE INPUT: true; the input reads as it did. -/
def fnGroupEndsAfterTailMonotoneAndSameLineCommentNeutralSpec : ChangeSpec := { name := "fnGroupEndsAfterTailMonotoneAndSameLineCommentNeutral", fn := fun _ => fun
  | [d1, d2, d3, d4] => { results := [.lit (.bool true)], args := [d1, d2, d3, d4] }
  | _ => none }
def fnGroupEndsAfterTailMonotoneAndSameLineCommentNeutralRow : OpenClaim := { program := "ytddcpnhpjgeldaa", sum := "91d3f74c169efa6fa144301222974f2a4b40d70e31efbd03c90c14614be05c61", func := "github.com/google/go-jsonnet/n008_135.FnGroupEndsAfterTailMonotoneAndSameLineCommentNeutral", spec := "fnGroupEndsAfterTailMonotoneAndSameLineCommentNeutral", unfollowed := true, recurses := true, apart := false }
def FnGroupEndsAfterTailMonotoneAndSameLineCommentNeutralSaid : Prop := fnGroupEndsAfterTailMonotoneAndSameLineCommentNeutralRow.holds Try.pinned (OpenSpec.ofChange fnGroupEndsAfterTailMonotoneAndSameLineCommentNeutralSpec)

/-- ITS FALSE NEIGHBOUR: 'it returns false'. Refute it at one input. -/
def fnGroupEndsAfterTailMonotoneAndSameLineCommentNeutralWrong : ChangeSpec := { name := "fnGroupEndsAfterTailMonotoneAndSameLineCommentNeutral", fn := fun _ => fun
  | [d1, d2, d3, d4] => { results := [.lit (.bool false)], args := [d1, d2, d3, d4] }
  | _ => none }
def FnGroupEndsAfterTailMonotoneAndSameLineCommentNeutralWrongFalsely : Prop := fnGroupEndsAfterTailMonotoneAndSameLineCommentNeutralRow.holds Try.pinned (OpenSpec.ofChange fnGroupEndsAfterTailMonotoneAndSameLineCommentNeutralWrong)

/-- 'n008_135.FnDuplicatedVariablesExact': WHATEVER THE INPUT: true; the input reads as it did. -/
def fnDuplicatedVariablesExactSpec : ChangeSpec := { name := "fnDuplicatedVariablesExact", fn := fun _ => fun
  | [d1, d2] => { results := [.lit (.bool true)], args := [d1, d2] }
  | _ => none }
def fnDuplicatedVariablesExactRow : OpenClaim := { program := "ytddcpnhpjgeldaa", sum := "91d3f74c169efa6fa144301222974f2a4b40d70e31efbd03c90c14614be05c61", func := "github.com/google/go-jsonnet/n008_135.FnDuplicatedVariablesExact", spec := "fnDuplicatedVariablesExact", apart := false }
def FnDuplicatedVariablesExactSaid : Prop := fnDuplicatedVariablesExactRow.holds Try.pinned (OpenSpec.ofChange fnDuplicatedVariablesExactSpec)

/-- ITS FALSE NEIGHBOUR: 'it returns false'. Refute it at one input. -/
def fnDuplicatedVariablesExactWrong : ChangeSpec := { name := "fnDuplicatedVariablesExact", fn := fun _ => fun
  | [d1, d2] => { results := [.lit (.bool false)], args := [d1, d2] }
  | _ => none }
def FnDuplicatedVariablesExactWrongFalsely : Prop := fnDuplicatedVariablesExactRow.holds Try.pinned (OpenSpec.ofChange fnDuplicatedVariablesExactWrong)

/-- 'n008_135.FnBuildGroupASTChainExact': WHATEVER THE INPUT: true; the input reads as it did. -/
def fnBuildGroupASTChainExactSpec : ChangeSpec := { name := "fnBuildGroupASTChainExact", fn := fun _ => fun
  | [d1, d2, d3, d4] => { results := [.lit (.bool true)], args := [d1, d2, d3, d4] }
  | _ => none }
def fnBuildGroupASTChainExactRow : OpenClaim := { program := "ytddcpnhpjgeldaa", sum := "91d3f74c169efa6fa144301222974f2a4b40d70e31efbd03c90c14614be05c61", func := "github.com/google/go-jsonnet/n008_135.FnBuildGroupASTChainExact", spec := "fnBuildGroupASTChainExact", apart := false }
def FnBuildGroupASTChainExactSaid : Prop := fnBuildGroupASTChainExactRow.holds Try.pinned (OpenSpec.ofChange fnBuildGroupASTChainExactSpec)

/-- ITS FALSE NEIGHBOUR: 'it returns false'. Refute it at one input. -/
def fnBuildGroupASTChainExactWrong : ChangeSpec := { name := "fnBuildGroupASTChainExact", fn := fun _ => fun
  | [d1, d2, d3, d4] => { results := [.lit (.bool false)], args := [d1, d2, d3, d4] }
  | _ => none }
def FnBuildGroupASTChainExactWrongFalsely : Prop := fnBuildGroupASTChainExactRow.holds Try.pinned (OpenSpec.ofChange fnBuildGroupASTChainExactWrong)

/-- 'n008_135.FnBuildGroupASTSplitComposes': WHATEVER THE INPUT: true; the input reads as it did. -/
def fnBuildGroupASTSplitComposesSpec : ChangeSpec := { name := "fnBuildGroupASTSplitComposes", fn := fun _ => fun
  | [d1, d2, d3, d4] => { results := [.lit (.bool true)], args := [d1, d2, d3, d4] }
  | _ => none }
def fnBuildGroupASTSplitComposesRow : OpenClaim := { program := "ytddcpnhpjgeldaa", sum := "91d3f74c169efa6fa144301222974f2a4b40d70e31efbd03c90c14614be05c61", func := "github.com/google/go-jsonnet/n008_135.FnBuildGroupASTSplitComposes", spec := "fnBuildGroupASTSplitComposes", apart := false }
def FnBuildGroupASTSplitComposesSaid : Prop := fnBuildGroupASTSplitComposesRow.holds Try.pinned (OpenSpec.ofChange fnBuildGroupASTSplitComposesSpec)

/-- ITS FALSE NEIGHBOUR: 'it returns false'. Refute it at one input. -/
def fnBuildGroupASTSplitComposesWrong : ChangeSpec := { name := "fnBuildGroupASTSplitComposes", fn := fun _ => fun
  | [d1, d2, d3, d4] => { results := [.lit (.bool false)], args := [d1, d2, d3, d4] }
  | _ => none }
def FnBuildGroupASTSplitComposesWrongFalsely : Prop := fnBuildGroupASTSplitComposesRow.holds Try.pinned (OpenSpec.ofChange fnBuildGroupASTSplitComposesWrong)

/-- 'n008_135.FnGroupEndsAfterExact': WHATEVER THE INPUT: true; the input reads as it did. -/
def fnGroupEndsAfterExactSpec : ChangeSpec := { name := "fnGroupEndsAfterExact", fn := fun _ => fun
  | [d1, d2, d3, d4, d5] => { results := [.lit (.bool true)], args := [d1, d2, d3, d4, d5] }
  | _ => none }
def fnGroupEndsAfterExactRow : OpenClaim := { program := "ytddcpnhpjgeldaa", sum := "91d3f74c169efa6fa144301222974f2a4b40d70e31efbd03c90c14614be05c61", func := "github.com/google/go-jsonnet/n008_135.FnGroupEndsAfterExact", spec := "fnGroupEndsAfterExact", unfollowed := true, recurses := true, apart := false }
def FnGroupEndsAfterExactSaid : Prop := fnGroupEndsAfterExactRow.holds Try.pinned (OpenSpec.ofChange fnGroupEndsAfterExactSpec)

/-- ITS FALSE NEIGHBOUR: 'it returns false'. Refute it at one input. -/
def fnGroupEndsAfterExactWrong : ChangeSpec := { name := "fnGroupEndsAfterExact", fn := fun _ => fun
  | [d1, d2, d3, d4, d5] => { results := [.lit (.bool false)], args := [d1, d2, d3, d4, d5] }
  | _ => none }
def FnGroupEndsAfterExactWrongFalsely : Prop := fnGroupEndsAfterExactRow.holds Try.pinned (OpenSpec.ofChange fnGroupEndsAfterExactWrong)

/-- 'n008_135.FnDuplicatedVariablesOrderFreeAndMonotone': WHATEVER THE INPUT: true; the input reads as it did. -/
def fnDuplicatedVariablesOrderFreeAndMonotoneSpec : ChangeSpec := { name := "fnDuplicatedVariablesOrderFreeAndMonotone", fn := fun _ => fun
  | [d1, d2, d3] => { results := [.lit (.bool true)], args := [d1, d2, d3] }
  | _ => none }
def fnDuplicatedVariablesOrderFreeAndMonotoneRow : OpenClaim := { program := "ytddcpnhpjgeldaa", sum := "91d3f74c169efa6fa144301222974f2a4b40d70e31efbd03c90c14614be05c61", func := "github.com/google/go-jsonnet/n008_135.FnDuplicatedVariablesOrderFreeAndMonotone", spec := "fnDuplicatedVariablesOrderFreeAndMonotone", apart := false }
def FnDuplicatedVariablesOrderFreeAndMonotoneSaid : Prop := fnDuplicatedVariablesOrderFreeAndMonotoneRow.holds Try.pinned (OpenSpec.ofChange fnDuplicatedVariablesOrderFreeAndMonotoneSpec)

/-- ITS FALSE NEIGHBOUR: 'it returns false'. Refute it at one input. -/
def fnDuplicatedVariablesOrderFreeAndMonotoneWrong : ChangeSpec := { name := "fnDuplicatedVariablesOrderFreeAndMonotone", fn := fun _ => fun
  | [d1, d2, d3] => { results := [.lit (.bool false)], args := [d1, d2, d3] }
  | _ => none }
def FnDuplicatedVariablesOrderFreeAndMonotoneWrongFalsely : Prop := fnDuplicatedVariablesOrderFreeAndMonotoneRow.holds Try.pinned (OpenSpec.ofChange fnDuplicatedVariablesOrderFreeAndMonotoneWrong)

/- THE SECOND FORM. 'bulk': how many values and letters a reading holds, each counted each time it is reached (what is shared counts as often as it is met; a slice's spare places count too). A statement '..UptoSaid' is the law's where the arguments, and the package variables that the reading takes, are together of bulk at most 1048576: NARROWER than '..Said'. Prove '..Said' where nothing that the law and all that it calls make is longer than what came in: it says more and counts as full. Else prove '..UptoSaid'. A law counts once. -/
mutual
def uptoBulk {H : Type} : DataW H → Nat
  | .lit (.string bytes) => bytes.length + 1
  | .lit _ => 1
  | .nil => 1
  | .ptr d => uptoBulk d + 1
  | .slice elems spare => uptoBulkAll elems + uptoBulkAll spare + 1
  | .agg parts => uptoBulkAll parts + 1
  | .iface _ d => uptoBulk d + 1
  | .map entries => uptoBulkEntries entries + 1
  | .held _ => 1
def uptoBulkAll {H : Type} : List (DataW H) → Nat
  | [] => 0
  | d :: r => uptoBulk d + uptoBulkAll r
def uptoBulkEntries {H : Type} : List (Lit × DataW H) → Nat
  | [] => 0
  | x :: r => uptoBulkEntry x + uptoBulkEntries r
def uptoBulkEntry {H : Type} : Lit × DataW H → Nat
  | (.string bytes, d) => bytes.length + uptoBulk d + 1
  | (_, d) => uptoBulk d + 1
 end
def uptoSmall : (H : Type) → List (DataW H) → Bool := fun _ ds => decide (uptoBulkAll ds ≤ 1048576)
def OpenSpec.upto (s : _root_.Go.ChangeSpec) : _root_.Go.OpenSpec := { _root_.Go.OpenSpec.ofChange s with cond := some uptoSmall }

/-- 'n008_135.FnGroupEndsAfterTailMonotoneAndSameLineCommentNeutral', WHERE WHAT IT READS IS OF BULK AT MOST 1048576: true; the input reads as it did. -/
def fnGroupEndsAfterTailMonotoneAndSameLineCommentNeutralUptoRow : OpenClaim := { program := "ytddcpnhpjgeldaa", sum := "91d3f74c169efa6fa144301222974f2a4b40d70e31efbd03c90c14614be05c61", func := "github.com/google/go-jsonnet/n008_135.FnGroupEndsAfterTailMonotoneAndSameLineCommentNeutral", spec := "fnGroupEndsAfterTailMonotoneAndSameLineCommentNeutral", unfollowed := true, recurses := true, apart := false, narrowed := true }
def FnGroupEndsAfterTailMonotoneAndSameLineCommentNeutralUptoSaid : Prop := fnGroupEndsAfterTailMonotoneAndSameLineCommentNeutralUptoRow.holds Try.pinned (OpenSpec.upto fnGroupEndsAfterTailMonotoneAndSameLineCommentNeutralSpec)

/-- 'n008_135.FnDuplicatedVariablesExact', WHERE WHAT IT READS IS OF BULK AT MOST 1048576: true; the input reads as it did. -/
def fnDuplicatedVariablesExactUptoRow : OpenClaim := { program := "ytddcpnhpjgeldaa", sum := "91d3f74c169efa6fa144301222974f2a4b40d70e31efbd03c90c14614be05c61", func := "github.com/google/go-jsonnet/n008_135.FnDuplicatedVariablesExact", spec := "fnDuplicatedVariablesExact", apart := false, narrowed := true }
def FnDuplicatedVariablesExactUptoSaid : Prop := fnDuplicatedVariablesExactUptoRow.holds Try.pinned (OpenSpec.upto fnDuplicatedVariablesExactSpec)

/-- 'n008_135.FnBuildGroupASTChainExact', WHERE WHAT IT READS IS OF BULK AT MOST 1048576: true; the input reads as it did. -/
def fnBuildGroupASTChainExactUptoRow : OpenClaim := { program := "ytddcpnhpjgeldaa", sum := "91d3f74c169efa6fa144301222974f2a4b40d70e31efbd03c90c14614be05c61", func := "github.com/google/go-jsonnet/n008_135.FnBuildGroupASTChainExact", spec := "fnBuildGroupASTChainExact", apart := false, narrowed := true }
def FnBuildGroupASTChainExactUptoSaid : Prop := fnBuildGroupASTChainExactUptoRow.holds Try.pinned (OpenSpec.upto fnBuildGroupASTChainExactSpec)

/-- 'n008_135.FnBuildGroupASTSplitComposes', WHERE WHAT IT READS IS OF BULK AT MOST 1048576: true; the input reads as it did. -/
def fnBuildGroupASTSplitComposesUptoRow : OpenClaim := { program := "ytddcpnhpjgeldaa", sum := "91d3f74c169efa6fa144301222974f2a4b40d70e31efbd03c90c14614be05c61", func := "github.com/google/go-jsonnet/n008_135.FnBuildGroupASTSplitComposes", spec := "fnBuildGroupASTSplitComposes", apart := false, narrowed := true }
def FnBuildGroupASTSplitComposesUptoSaid : Prop := fnBuildGroupASTSplitComposesUptoRow.holds Try.pinned (OpenSpec.upto fnBuildGroupASTSplitComposesSpec)

/-- 'n008_135.FnGroupEndsAfterExact', WHERE WHAT IT READS IS OF BULK AT MOST 1048576: true; the input reads as it did. -/
def fnGroupEndsAfterExactUptoRow : OpenClaim := { program := "ytddcpnhpjgeldaa", sum := "91d3f74c169efa6fa144301222974f2a4b40d70e31efbd03c90c14614be05c61", func := "github.com/google/go-jsonnet/n008_135.FnGroupEndsAfterExact", spec := "fnGroupEndsAfterExact", unfollowed := true, recurses := true, apart := false, narrowed := true }
def FnGroupEndsAfterExactUptoSaid : Prop := fnGroupEndsAfterExactUptoRow.holds Try.pinned (OpenSpec.upto fnGroupEndsAfterExactSpec)

/-- 'n008_135.FnDuplicatedVariablesOrderFreeAndMonotone', WHERE WHAT IT READS IS OF BULK AT MOST 1048576: true; the input reads as it did. -/
def fnDuplicatedVariablesOrderFreeAndMonotoneUptoRow : OpenClaim := { program := "ytddcpnhpjgeldaa", sum := "91d3f74c169efa6fa144301222974f2a4b40d70e31efbd03c90c14614be05c61", func := "github.com/google/go-jsonnet/n008_135.FnDuplicatedVariablesOrderFreeAndMonotone", spec := "fnDuplicatedVariablesOrderFreeAndMonotone", apart := false, narrowed := true }
def FnDuplicatedVariablesOrderFreeAndMonotoneUptoSaid : Prop := fnDuplicatedVariablesOrderFreeAndMonotoneUptoRow.holds Try.pinned (OpenSpec.upto fnDuplicatedVariablesOrderFreeAndMonotoneSpec)

end Rows
end Go.Proofs.Ytddcpnhpjgeldaa
