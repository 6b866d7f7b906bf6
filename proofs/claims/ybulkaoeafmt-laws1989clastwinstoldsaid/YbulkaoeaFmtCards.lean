/-
  DERIVED. GIVEN WITH THE SEED: THE CARDS: each row of YbulkaoeaFmtRows.lean that lists a variable, with what it lists TIED to the program's text (the seventh form; the later family's looks); each row that meets fmt, with fmt's text TOLD by the authors' own Lean function (tested against real Go, not proved from fmt's source: count such statements apart). THE CARD IS WHAT COUNTS. Prove the row's statement (the work); the ties are given (YbulkaoeaFmtTie.lean); close each card by the builder's one call (the guide's Derived/Test/ToyasCard.lean, 'card_holds'). Laid BY PROGRAM, IN A SANDBOX (cutbox-door.mjs). By AI agents, Wed Nov 11 2026. No macro, syntax, notation, axiom, sorry.
-/
import Derived.Test.YbulkaoeaFmtRows
import GoSem.ClaimSeven
namespace Go.Proofs.YbulkaoeaFmt
namespace Rows

/-- THE TOLD CARD OF 'framelet.LawS1989CSetsShared'. -/
def lawS1989CSetsSharedCard : Claim7 := { stood := { row := lawS1989CSetsSharedRow, standIns := [], harness := (true, "28cb832863377521da19739c4837347a492a6b1f539f0c190025e493d96d0b90"), looks := false }, told := true, goes := false }
def LawS1989CSetsSharedToldSaid : Prop := Claim7.holds Ybaf.pinned (.plain (OpenSpec.ofChange lawS1989CSetsSharedSpec)) lawS1989CSetsSharedCard
/-- ITS FALSE NEIGHBOUR. Refute it at one input. -/
def LawS1989CSetsSharedToldWrongFalsely : Prop := Claim7.holds Ybaf.pinned (.plain (OpenSpec.ofChange lawS1989CSetsSharedWrong)) lawS1989CSetsSharedCard

/-- THE TOLD CARD OF 'framelet.LawS1989CLastWins'. -/
def lawS1989CLastWinsCard : Claim7 := { stood := { row := lawS1989CLastWinsRow, standIns := [], harness := (true, "28cb832863377521da19739c4837347a492a6b1f539f0c190025e493d96d0b90"), looks := false }, told := true, goes := false }
def LawS1989CLastWinsToldSaid : Prop := Claim7.holds Ybaf.pinned (.plain (OpenSpec.ofChange lawS1989CLastWinsSpec)) lawS1989CLastWinsCard
/-- ITS FALSE NEIGHBOUR. Refute it at one input. -/
def LawS1989CLastWinsToldWrongFalsely : Prop := Claim7.holds Ybaf.pinned (.plain (OpenSpec.ofChange lawS1989CLastWinsWrong)) lawS1989CLastWinsCard
end Rows
end Go.Proofs.YbulkaoeaFmt
