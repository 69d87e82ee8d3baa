/-
  DERIVED. GIVEN WITH THE SEED: THE CARDS: each row of YbulkaeosFmtRows.lean that lists a variable, with what it lists TIED to the program's text (the seventh form; the later family's looks); each row that meets fmt, with fmt's text TOLD by the authors' own Lean function (tested against real Go, not proved from fmt's source: count such statements apart). THE CARD IS WHAT COUNTS. Prove the row's statement (the work); the ties are given (YbulkaeosFmtTie.lean); close each card by the builder's one call (the guide's Derived/Test/ToyasCard.lean, 'card_holds'). Laid BY PROGRAM, IN A SANDBOX (cutbox-door.mjs). By AI agents, Wed Nov 11 2026. No macro, syntax, notation, axiom, sorry.
-/
import Derived.Test.YbulkaeosFmtRows
import GoSem.ClaimSeven
namespace Go.Proofs.YbulkaeosFmt
namespace Rows

/-- THE TOLD CARD OF 'tessera.LawS1526BAppends'. -/
def lawS1526BAppendsCard : Claim7 := { stood := { row := lawS1526BAppendsRow, standIns := [], harness := (true, "b64818568811abde3faacfb6f905f5e88cbdc8008d86c8b3b9ba2d19cd0a8fba"), looks := true }, told := true, goes := false }
def LawS1526BAppendsToldSaid : Prop := Claim7.holds Ybaf.pinned (.plain (OpenSpec.ofChange lawS1526BAppendsSpec)) lawS1526BAppendsCard
/-- ITS FALSE NEIGHBOUR. Refute it at one input. -/
def LawS1526BAppendsToldWrongFalsely : Prop := Claim7.holds Ybaf.pinned (.plain (OpenSpec.ofChange lawS1526BAppendsWrong)) lawS1526BAppendsCard

/-- THE TOLD CARD OF 'tessera.LawS1526BTooLong'. -/
def lawS1526BTooLongCard : Claim7 := { stood := { row := lawS1526BTooLongRow, standIns := [], harness := (true, "b64818568811abde3faacfb6f905f5e88cbdc8008d86c8b3b9ba2d19cd0a8fba"), looks := true }, told := true, goes := false }
def LawS1526BTooLongToldSaid : Prop := Claim7.holds Ybaf.pinned (.plain (OpenSpec.ofChange lawS1526BTooLongSpec)) lawS1526BTooLongCard
/-- ITS FALSE NEIGHBOUR. Refute it at one input. -/
def LawS1526BTooLongToldWrongFalsely : Prop := Claim7.holds Ybaf.pinned (.plain (OpenSpec.ofChange lawS1526BTooLongWrong)) lawS1526BTooLongCard
end Rows
end Go.Proofs.YbulkaeosFmt
