/-
  No cell of these rows narrows 'for every input' (looked for: loops, veiled, ifaces, maps, wideKeys, modest, calm, conditions, laid).
  DERIVED. THE GIVEN ROWS OF THIS SEAT. 2 by the template 'for every input the law returns true; each argument reads behind the call as it read before'; 0 by the template 'total and deterministic' (their statements: YbulkaepuFmtTotals.lean).
  GIVEN WITH THE SEED: the statements are not yours to turn. If you find one false, say at which input.
  Laid BY PROGRAM, IN A SANDBOX (cutbox-rows.mjs): the forced cells as the released guide's own fill.sh prints them over the translation d5419ca7e1aa0203… (all of the seat's roots in one cut). By AI agents, Wed Nov 11 2026. No macro, syntax, notation, axiom, sorry.
-/
import Derived.Test.YbulkaepuFmtChecked
import GoSem.Claim
import GoSem.ClaimJoined
import GoSem.ClaimMapViews
import Derived.JoinedTies
import Derived.KernelRfl
namespace Go.Proofs.YbulkaepuFmt
/- THE CELL 'sum', in the pinned program and in every row, IS THE sha256 OF THE DUMP (.gsa) THAT YbulkaepuFmtProg.lean LOADS. Nothing in Lean hashes anything: it is a label: what it is worth is what the hold of that sum in a sandbox is worth. -/
noncomputable def Ybaf.pinned : Pinned := { name := "ybulkaepufmt", sum := "d5419ca7e1aa020318d825c73820f69cd6d59694ab117a0cad545d62b9f6941b", checked := Ybaf.checked }
namespace Rows
def none {H : Type} : Left H := { results := [], args := [] }

/-- 'lua53.LawS1528CBytes': WHATEVER THE INPUT: true; the input reads as it did. -/
def lawS1528CBytesSpec : ChangeSpec := { name := "lawS1528CBytes", fn := fun _ => fun
  | [d1, d2, d3, d4, d5, d6] => { results := [.lit (.bool true)], args := [d1, d2, d3, d4, d5, d6] }
  | _ => none }
def lawS1528CBytesRow : OpenClaim := { program := "ybulkaepufmt", sum := "d5419ca7e1aa020318d825c73820f69cd6d59694ab117a0cad545d62b9f6941b", func := "example.com/chunkwright/chunkwright/lua53.LawS1528CBytes", spec := "lawS1528CBytes", stops := ["fmt.Sprintf"], inPlace := ["fmt.Sprintf", "fmt.Appendf"], unfollowed := true, recurses := true, apart := false }
/-- NO THEOREM (fmt's text is open here; it may be false): for the released tool's asking of the row's closed facts alone. THE STATEMENT IS 'LawS1528CBytesToldSaid' (YbulkaepuFmtCards.lean). -/
def LawS1528CBytesFormAsk : Prop := lawS1528CBytesRow.holds Ybaf.pinned (OpenSpec.ofChange lawS1528CBytesSpec)

/-- ITS FALSE NEIGHBOUR: 'it returns false'. Refute it at one input. -/
def lawS1528CBytesWrong : ChangeSpec := { name := "lawS1528CBytes", fn := fun _ => fun
  | [d1, d2, d3, d4, d5, d6] => { results := [.lit (.bool false)], args := [d1, d2, d3, d4, d5, d6] }
  | _ => none }
def LawS1528CBytesWrongFormAsk : Prop := lawS1528CBytesRow.holds Ybaf.pinned (OpenSpec.ofChange lawS1528CBytesWrong)

/-- 'lua53.LawS1528CBigEndian': WHATEVER THE INPUT: true; the input reads as it did. -/
def lawS1528CBigEndianSpec : ChangeSpec := { name := "lawS1528CBigEndian", fn := fun _ => fun
  | [d1, d2, d3, d4, d5] => { results := [.lit (.bool true)], args := [d1, d2, d3, d4, d5] }
  | _ => none }
def lawS1528CBigEndianRow : OpenClaim := { program := "ybulkaepufmt", sum := "d5419ca7e1aa020318d825c73820f69cd6d59694ab117a0cad545d62b9f6941b", func := "example.com/chunkwright/chunkwright/lua53.LawS1528CBigEndian", spec := "lawS1528CBigEndian", stops := ["fmt.Sprintf"], inPlace := ["fmt.Sprintf", "fmt.Appendf"], unfollowed := true, recurses := true, named := ["encoding/binary.BigEndian"], apart := false }
/-- NO THEOREM (fmt's text is open here; it may be false): for the released tool's asking of the row's closed facts alone. THE STATEMENT IS 'LawS1528CBigEndianToldSaid' (YbulkaepuFmtCards.lean). -/
def LawS1528CBigEndianFormAsk : Prop := lawS1528CBigEndianRow.holds Ybaf.pinned (OpenSpec.ofChange lawS1528CBigEndianSpec)

/-- ITS FALSE NEIGHBOUR: 'it returns false'. Refute it at one input. -/
def lawS1528CBigEndianWrong : ChangeSpec := { name := "lawS1528CBigEndian", fn := fun _ => fun
  | [d1, d2, d3, d4, d5] => { results := [.lit (.bool false)], args := [d1, d2, d3, d4, d5] }
  | _ => none }
def LawS1528CBigEndianWrongFormAsk : Prop := lawS1528CBigEndianRow.holds Ybaf.pinned (OpenSpec.ofChange lawS1528CBigEndianWrong)

end Rows
end Go.Proofs.YbulkaepuFmt
