/-
  DERIVED. GIVEN WITH THE SEED: THE CARDS: each row of YbulkaepuFmtRows.lean that lists a variable, with what it lists TIED to the program's text (the seventh form; the later family's looks); each row that meets fmt, with fmt's text TOLD by the authors' own Lean function (tested against real Go, not proved from fmt's source: count such statements apart). THE CARD IS WHAT COUNTS. Prove the row's statement (the work); the ties are given (YbulkaepuFmtTie.lean); close each card by the builder's one call (the guide's Derived/Test/ToyasCard.lean, 'card_holds'). Laid BY PROGRAM, IN A SANDBOX (cutbox-door.mjs). By AI agents, Wed Nov 11 2026. No macro, syntax, notation, axiom, sorry.
-/
import Derived.Test.YbulkaepuFmtRows
import GoSem.ClaimSeven
namespace Go.Proofs.YbulkaepuFmt
namespace Rows

/-- THE TOLD CARD OF 'lua53.LawS1528CBytes'. -/
def lawS1528CBytesCard : Claim7 := { stood := { row := lawS1528CBytesRow, standIns := [], harness := (true, "4a24e971e4d5a00c2d9a89db08e0f207f6bf93fef49518095f3c6de8574c324a"), looks := false }, told := true, goes := false }
def LawS1528CBytesToldSaid : Prop := Claim7.holds Ybaf.pinned (.plain (OpenSpec.ofChange lawS1528CBytesSpec)) lawS1528CBytesCard
/-- ITS FALSE NEIGHBOUR. Refute it at one input. -/
def LawS1528CBytesToldWrongFalsely : Prop := Claim7.holds Ybaf.pinned (.plain (OpenSpec.ofChange lawS1528CBytesWrong)) lawS1528CBytesCard

/-- THE TOLD CARD OF 'lua53.LawS1528CBigEndian'. -/
def lawS1528CBigEndianCard : Claim7 := { stood := { row := lawS1528CBigEndianRow, standIns := [], harness := (true, "4a24e971e4d5a00c2d9a89db08e0f207f6bf93fef49518095f3c6de8574c324a"), looks := false }, told := true, goes := false }
def LawS1528CBigEndianToldSaid : Prop := Claim7.holds Ybaf.pinned (.plain (OpenSpec.ofChange lawS1528CBigEndianSpec)) lawS1528CBigEndianCard
/-- ITS FALSE NEIGHBOUR. Refute it at one input. -/
def LawS1528CBigEndianToldWrongFalsely : Prop := Claim7.holds Ybaf.pinned (.plain (OpenSpec.ofChange lawS1528CBigEndianWrong)) lawS1528CBigEndianCard
end Rows
end Go.Proofs.YbulkaepuFmt
