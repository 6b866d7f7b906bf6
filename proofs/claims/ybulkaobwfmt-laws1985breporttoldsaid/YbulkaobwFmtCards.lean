/-
  DERIVED. GIVEN WITH THE SEED: THE CARDS: each row of YbulkaobwFmtRows.lean that lists a variable, with what it lists TIED to the program's text (the seventh form; the later family's looks); each row that meets fmt, with fmt's text TOLD by the authors' own Lean function (tested against real Go, not proved from fmt's source: count such statements apart). THE CARD IS WHAT COUNTS. Prove the row's statement (the work); the ties are given (YbulkaobwFmtTie.lean); close each card by the builder's one call (the guide's Derived/Test/ToyasCard.lean, 'card_holds'). Laid BY PROGRAM, IN A SANDBOX (cutbox-door.mjs). By AI agents, Wed Nov 11 2026. No macro, syntax, notation, axiom, sorry.
-/
import Derived.Test.YbulkaobwFmtRows
import GoSem.ClaimSeven
namespace Go.Proofs.YbulkaobwFmt
namespace Rows

/-- THE TOLD AND TIED CARD OF 'types.LawS1985AReports'. -/
def lawS1985AReportsCard : Claim7 := { stood := { row := lawS1985AReportsRow, standIns := [], harness := (true, "bb168f641d03833f70a66c9d417550654b8bfe44d1b6f9ed029d5009d3c3b389"), looks := true }, told := true, laidByText := true, laidKinds := [.mapped, .mapped], laidTests := true, laidLooks := .later, goes := false }
def LawS1985AReportsToldSaid : Prop := Claim7.holds Ybaf.pinned (.plain (OpenSpec.ofChange lawS1985AReportsSpec)) lawS1985AReportsCard
/-- ITS FALSE NEIGHBOUR. Refute it at one input. -/
def LawS1985AReportsToldWrongFalsely : Prop := Claim7.holds Ybaf.pinned (.plain (OpenSpec.ofChange lawS1985AReportsWrong)) lawS1985AReportsCard

/-- THE TOLD CARD OF 'types.LawS1985BReport'. -/
def lawS1985BReportCard : Claim7 := { stood := { row := lawS1985BReportRow, standIns := [], harness := (true, "bb168f641d03833f70a66c9d417550654b8bfe44d1b6f9ed029d5009d3c3b389"), looks := true }, told := true, goes := false }
def LawS1985BReportToldSaid : Prop := Claim7.holds Ybaf.pinned (.plain (OpenSpec.ofChange lawS1985BReportSpec)) lawS1985BReportCard
/-- ITS FALSE NEIGHBOUR. Refute it at one input. -/
def LawS1985BReportToldWrongFalsely : Prop := Claim7.holds Ybaf.pinned (.plain (OpenSpec.ofChange lawS1985BReportWrong)) lawS1985BReportCard
end Rows
end Go.Proofs.YbulkaobwFmt
