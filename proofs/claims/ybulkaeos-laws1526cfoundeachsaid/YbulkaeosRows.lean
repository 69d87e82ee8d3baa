/-
  No cell of these rows narrows 'for every input' (looked for: loops, veiled, ifaces, maps, wideKeys, modest, calm, conditions, laid).
  DERIVED. THE GIVEN ROWS OF THIS SEAT. 2 by the template 'for every input the law returns true; each argument reads behind the call as it read before'; 0 by the template 'total and deterministic' (their statements: YbulkaeosTotals.lean).
  GIVEN WITH THE SEED: the statements are not yours to turn. If you find one false, say at which input.
  Laid BY PROGRAM, IN A SANDBOX (cutbox-rows.mjs): the forced cells as the released guide's own fill.sh prints them over the translation 2d5931cadd9118a7… (all of the seat's roots in one cut). By AI agents, Wed Nov 11 2026. No macro, syntax, notation, axiom, sorry.
-/
import Derived.Test.YbulkaeosChecked
import GoSem.Claim
import GoSem.ClaimJoined
import GoSem.ClaimMapViews
import Derived.JoinedTies
import Derived.KernelRfl
namespace Go.Proofs.Ybulkaeos
/- THE CELL 'sum', in the pinned program and in every row, IS THE sha256 OF THE DUMP (.gsa) THAT YbulkaeosProg.lean LOADS. Nothing in Lean hashes anything: it is a label: what it is worth is what the hold of that sum in a sandbox is worth. -/
noncomputable def Yba.pinned : Pinned := { name := "ybulkaeos", sum := "2d5931cadd9118a70896a22eace350a449c9056a761e1253195f8c678736958b", checked := Yba.checked }
namespace Rows
def none {H : Type} : Left H := { results := [], args := [] }

/-- 'tessera.LawS1526CFirstMatch': WHATEVER THE INPUT: true; the input reads as it did. -/
def lawS1526CFirstMatchSpec : ChangeSpec := { name := "lawS1526CFirstMatch", fn := fun _ => fun
  | [d1, d2] => { results := [.lit (.bool true)], args := [d1, d2] }
  | _ => none }
def lawS1526CFirstMatchRow : OpenClaim := { program := "ybulkaeos", sum := "2d5931cadd9118a70896a22eace350a449c9056a761e1253195f8c678736958b", func := "example.com/tessera/tessera.LawS1526CFirstMatch", spec := "lawS1526CFirstMatch", apart := false }
def LawS1526CFirstMatchSaid : Prop := lawS1526CFirstMatchRow.holds Yba.pinned (OpenSpec.ofChange lawS1526CFirstMatchSpec)

/-- ITS FALSE NEIGHBOUR: 'it returns false'. Refute it at one input. -/
def lawS1526CFirstMatchWrong : ChangeSpec := { name := "lawS1526CFirstMatch", fn := fun _ => fun
  | [d1, d2] => { results := [.lit (.bool false)], args := [d1, d2] }
  | _ => none }
def LawS1526CFirstMatchWrongFalsely : Prop := lawS1526CFirstMatchRow.holds Yba.pinned (OpenSpec.ofChange lawS1526CFirstMatchWrong)

/-- 'tessera.LawS1526CFoundEach': WHATEVER THE INPUT: true; the input reads as it did. -/
def lawS1526CFoundEachSpec : ChangeSpec := { name := "lawS1526CFoundEach", fn := fun _ => fun
  | [d] => { results := [.lit (.bool true)], args := [d] }
  | _ => none }
def lawS1526CFoundEachRow : OpenClaim := { program := "ybulkaeos", sum := "2d5931cadd9118a70896a22eace350a449c9056a761e1253195f8c678736958b", func := "example.com/tessera/tessera.LawS1526CFoundEach", spec := "lawS1526CFoundEach", apart := false }
def LawS1526CFoundEachSaid : Prop := lawS1526CFoundEachRow.holds Yba.pinned (OpenSpec.ofChange lawS1526CFoundEachSpec)

/-- ITS FALSE NEIGHBOUR: 'it returns false'. Refute it at one input. -/
def lawS1526CFoundEachWrong : ChangeSpec := { name := "lawS1526CFoundEach", fn := fun _ => fun
  | [d] => { results := [.lit (.bool false)], args := [d] }
  | _ => none }
def LawS1526CFoundEachWrongFalsely : Prop := lawS1526CFoundEachRow.holds Yba.pinned (OpenSpec.ofChange lawS1526CFoundEachWrong)

end Rows
end Go.Proofs.Ybulkaeos
