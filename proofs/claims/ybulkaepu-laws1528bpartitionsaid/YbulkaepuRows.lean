/-
  No cell of these rows narrows 'for every input' (looked for: loops, veiled, ifaces, maps, wideKeys, modest, calm, conditions, laid).
  DERIVED. THE GIVEN ROWS OF THIS SEAT. 2 by the template 'for every input the law returns true; each argument reads behind the call as it read before'; 0 by the template 'total and deterministic' (their statements: YbulkaepuTotals.lean).
  GIVEN WITH THE SEED: the statements are not yours to turn. If you find one false, say at which input.
  Laid BY PROGRAM, IN A SANDBOX (cutbox-rows.mjs): the forced cells as the released guide's own fill.sh prints them over the translation f0d189ba69fbbd6c… (all of the seat's roots in one cut). By AI agents, Wed Nov 11 2026. No macro, syntax, notation, axiom, sorry.
-/
import Derived.Test.YbulkaepuChecked
import GoSem.Claim
import GoSem.ClaimJoined
import GoSem.ClaimMapViews
import Derived.JoinedTies
import Derived.KernelRfl
namespace Go.Proofs.Ybulkaepu
/- THE CELL 'sum', in the pinned program and in every row, IS THE sha256 OF THE DUMP (.gsa) THAT YbulkaepuProg.lean LOADS. Nothing in Lean hashes anything: it is a label: what it is worth is what the hold of that sum in a sandbox is worth. -/
noncomputable def Yba.pinned : Pinned := { name := "ybulkaepu", sum := "f0d189ba69fbbd6ca52acca74ab64144b8c1b205b381e5d5127156b01614ef0a", checked := Yba.checked }
namespace Rows
def none {H : Type} : Left H := { results := [], args := [] }

/-- 'verify.LawS1528BExact': WHATEVER THE INPUT: true; the input reads as it did. -/
def lawS1528BExactSpec : ChangeSpec := { name := "lawS1528BExact", fn := fun _ => fun
  | [d1, d2, d3] => { results := [.lit (.bool true)], args := [d1, d2, d3] }
  | _ => none }
def lawS1528BExactRow : OpenClaim := { program := "ybulkaepu", sum := "f0d189ba69fbbd6ca52acca74ab64144b8c1b205b381e5d5127156b01614ef0a", func := "example.com/chunkwright/chunkwright/verify.LawS1528BExact", spec := "lawS1528BExact", apart := false }
def LawS1528BExactSaid : Prop := lawS1528BExactRow.holds Yba.pinned (OpenSpec.ofChange lawS1528BExactSpec)

/-- ITS FALSE NEIGHBOUR: 'it returns false'. Refute it at one input. -/
def lawS1528BExactWrong : ChangeSpec := { name := "lawS1528BExact", fn := fun _ => fun
  | [d1, d2, d3] => { results := [.lit (.bool false)], args := [d1, d2, d3] }
  | _ => none }
def LawS1528BExactWrongFalsely : Prop := lawS1528BExactRow.holds Yba.pinned (OpenSpec.ofChange lawS1528BExactWrong)

/-- 'verify.LawS1528BPartition': WHATEVER THE INPUT: true; the input reads as it did. -/
def lawS1528BPartitionSpec : ChangeSpec := { name := "lawS1528BPartition", fn := fun _ => fun
  | [d1, d2, d3] => { results := [.lit (.bool true)], args := [d1, d2, d3] }
  | _ => none }
def lawS1528BPartitionRow : OpenClaim := { program := "ybulkaepu", sum := "f0d189ba69fbbd6ca52acca74ab64144b8c1b205b381e5d5127156b01614ef0a", func := "example.com/chunkwright/chunkwright/verify.LawS1528BPartition", spec := "lawS1528BPartition", apart := false }
def LawS1528BPartitionSaid : Prop := lawS1528BPartitionRow.holds Yba.pinned (OpenSpec.ofChange lawS1528BPartitionSpec)

/-- ITS FALSE NEIGHBOUR: 'it returns false'. Refute it at one input. -/
def lawS1528BPartitionWrong : ChangeSpec := { name := "lawS1528BPartition", fn := fun _ => fun
  | [d1, d2, d3] => { results := [.lit (.bool false)], args := [d1, d2, d3] }
  | _ => none }
def LawS1528BPartitionWrongFalsely : Prop := lawS1528BPartitionRow.holds Yba.pinned (OpenSpec.ofChange lawS1528BPartitionWrong)

end Rows
end Go.Proofs.Ybulkaepu
