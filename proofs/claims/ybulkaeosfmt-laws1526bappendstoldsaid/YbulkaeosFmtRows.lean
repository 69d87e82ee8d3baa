/-
  No cell of these rows narrows 'for every input' (looked for: loops, veiled, ifaces, maps, wideKeys, modest, calm, conditions, laid).
  DERIVED. THE GIVEN ROWS OF THIS SEAT. 2 by the template 'for every input the law returns true; each argument reads behind the call as it read before'; 0 by the template 'total and deterministic' (their statements: YbulkaeosFmtTotals.lean).
  GIVEN WITH THE SEED: the statements are not yours to turn. If you find one false, say at which input.
  Laid BY PROGRAM, IN A SANDBOX (cutbox-rows.mjs): the forced cells as the released guide's own fill.sh prints them over the translation ccdac6da1dd75119… (all of the seat's roots in one cut). By AI agents, Wed Nov 11 2026. No macro, syntax, notation, axiom, sorry.
-/
import Derived.Test.YbulkaeosFmtChecked
import GoSem.Claim
import GoSem.ClaimJoined
import GoSem.ClaimMapViews
import Derived.JoinedTies
import Derived.KernelRfl
namespace Go.Proofs.YbulkaeosFmt
/- THE CELL 'sum', in the pinned program and in every row, IS THE sha256 OF THE DUMP (.gsa) THAT YbulkaeosFmtProg.lean LOADS. Nothing in Lean hashes anything: it is a label: what it is worth is what the hold of that sum in a sandbox is worth. -/
noncomputable def Ybaf.pinned : Pinned := { name := "ybulkaeosfmt", sum := "ccdac6da1dd751190c012c098baaf273d727f96edc7eb26b8880fffda8b0cc74", checked := Ybaf.checked }
namespace Rows
def none {H : Type} : Left H := { results := [], args := [] }

/-- 'tessera.LawS1526BAppends': WHATEVER THE INPUT: true; the input reads as it did. -/
def lawS1526BAppendsSpec : ChangeSpec := { name := "lawS1526BAppends", fn := fun _ => fun
  | [d1, d2, d3, d4] => { results := [.lit (.bool true)], args := [d1, d2, d3, d4] }
  | _ => none }
def lawS1526BAppendsRow : OpenClaim := { program := "ybulkaeosfmt", sum := "ccdac6da1dd751190c012c098baaf273d727f96edc7eb26b8880fffda8b0cc74", func := "example.com/tessera/tessera.LawS1526BAppends", spec := "lawS1526BAppends", stops := ["fmt.errorf"], inPlace := ["fmt.errorf"], apart := false }
/-- NO THEOREM (fmt's text is open here; it may be false): for the released tool's asking of the row's closed facts alone. THE STATEMENT IS 'LawS1526BAppendsToldSaid' (YbulkaeosFmtCards.lean). -/
def LawS1526BAppendsFormAsk : Prop := lawS1526BAppendsRow.holds Ybaf.pinned (OpenSpec.ofChange lawS1526BAppendsSpec)

/-- ITS FALSE NEIGHBOUR: 'it returns false'. Refute it at one input. -/
def lawS1526BAppendsWrong : ChangeSpec := { name := "lawS1526BAppends", fn := fun _ => fun
  | [d1, d2, d3, d4] => { results := [.lit (.bool false)], args := [d1, d2, d3, d4] }
  | _ => none }
def LawS1526BAppendsWrongFormAsk : Prop := lawS1526BAppendsRow.holds Ybaf.pinned (OpenSpec.ofChange lawS1526BAppendsWrong)

/-- 'tessera.LawS1526BTooLong': WHATEVER THE INPUT: true; the input reads as it did. -/
def lawS1526BTooLongSpec : ChangeSpec := { name := "lawS1526BTooLong", fn := fun _ => fun
  | [d1, d2, d3] => { results := [.lit (.bool true)], args := [d1, d2, d3] }
  | _ => none }
def lawS1526BTooLongRow : OpenClaim := { program := "ybulkaeosfmt", sum := "ccdac6da1dd751190c012c098baaf273d727f96edc7eb26b8880fffda8b0cc74", func := "example.com/tessera/tessera.LawS1526BTooLong", spec := "lawS1526BTooLong", stops := ["fmt.errorf"], inPlace := ["fmt.errorf"], apart := false }
/-- NO THEOREM (fmt's text is open here; it may be false): for the released tool's asking of the row's closed facts alone. THE STATEMENT IS 'LawS1526BTooLongToldSaid' (YbulkaeosFmtCards.lean). -/
def LawS1526BTooLongFormAsk : Prop := lawS1526BTooLongRow.holds Ybaf.pinned (OpenSpec.ofChange lawS1526BTooLongSpec)

/-- ITS FALSE NEIGHBOUR: 'it returns false'. Refute it at one input. -/
def lawS1526BTooLongWrong : ChangeSpec := { name := "lawS1526BTooLong", fn := fun _ => fun
  | [d1, d2, d3] => { results := [.lit (.bool false)], args := [d1, d2, d3] }
  | _ => none }
def LawS1526BTooLongWrongFormAsk : Prop := lawS1526BTooLongRow.holds Ybaf.pinned (OpenSpec.ofChange lawS1526BTooLongWrong)

end Rows
end Go.Proofs.YbulkaeosFmt
