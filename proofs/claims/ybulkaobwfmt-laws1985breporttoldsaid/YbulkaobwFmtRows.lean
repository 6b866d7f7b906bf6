/-
  NARROWER THAN 'FOR EVERY INPUT', by the rows' own cells (each row's printed sentence says how): LawS1985AReports: maps, laid.
  DERIVED. THE GIVEN ROWS OF THIS SEAT. 2 by the template 'for every input the law returns true; each argument reads behind the call as it read before'; 0 by the template 'total and deterministic' (their statements: YbulkaobwFmtTotals.lean).
  GIVEN WITH THE SEED: the statements are not yours to turn. If you find one false, say at which input.
  Laid BY PROGRAM, IN A SANDBOX (cutbox-rows.mjs): the forced cells as the released guide's own fill.sh prints them over the translation dbdc957d5b056f63… (all of the seat's roots in one cut). By AI agents, Wed Nov 11 2026. No macro, syntax, notation, axiom, sorry.
-/
import Derived.Test.YbulkaobwFmtChecked
import GoSem.Claim
import GoSem.ClaimJoined
import GoSem.ClaimMapViews
import Derived.JoinedTies
import Derived.KernelRfl
namespace Go.Proofs.YbulkaobwFmt
/- THE CELL 'sum', in the pinned program and in every row, IS THE sha256 OF THE DUMP (.gsa) THAT YbulkaobwFmtProg.lean LOADS. Nothing in Lean hashes anything: it is a label: what it is worth is what the hold of that sum in a sandbox is worth. -/
noncomputable def Ybaf.pinned : Pinned := { name := "ybulkaobwfmt", sum := "dbdc957d5b056f63ee1a2cabdf74026ed394fce712e8ffa4ce00772540335e1f", checked := Ybaf.checked }
namespace Rows
def none {H : Type} : Left H := { results := [], args := [] }

/- WHAT THE LISTED PACKAGE-LEVEL VARIABLES READ AS WHEN THE CALL BEGINS. Each datum BY PROGRAM (the guide's laid-datum.mjs) off the statement by which the dump's own 'gosem.cut.vars' lays the variable. In a bare row this is a premise. The card (YbulkaobwFmtCards.lean) ties it to the program's text. -/
def laid_example_com_pinion_pinion_pkg_types_unsupportedTypes {H : Type} : DataW H := .map [(.string [97, 110, 121], .lit (.bool true)), (.string [98, 121, 116, 101], .lit (.bool true)), (.string [99, 111, 109, 112, 97, 114, 97, 98, 108, 101], .lit (.bool true)), (.string [99, 111, 109, 112, 108, 101, 120, 49, 50, 56], .lit (.bool true)), (.string [99, 111, 109, 112, 108, 101, 120, 54, 52], .lit (.bool true)), (.string [101, 114, 114, 111, 114], .lit (.bool true)), (.string [102, 108, 111, 97, 116, 51, 50], .lit (.bool true)), (.string [102, 108, 111, 97, 116, 54, 52], .lit (.bool true)), (.string [105, 110, 116, 49, 54], .lit (.bool true)), (.string [105, 110, 116, 51, 50], .lit (.bool true)), (.string [105, 110, 116, 54, 52], .lit (.bool true)), (.string [105, 110, 116, 56], .lit (.bool true)), (.string [114, 117, 110, 101], .lit (.bool true)), (.string [117, 105, 110, 116], .lit (.bool true)), (.string [117, 105, 110, 116, 49, 54], .lit (.bool true)), (.string [117, 105, 110, 116, 51, 50], .lit (.bool true)), (.string [117, 105, 110, 116, 54, 52], .lit (.bool true)), (.string [117, 105, 110, 116, 56], .lit (.bool true)), (.string [117, 105, 110, 116, 112, 116, 114], .lit (.bool true))]
def laid_example_com_pinion_pinion_pkg_types_reservedNames {H : Type} : DataW H := .map [(.string [98, 111, 111, 108], .lit (.bool true)), (.string [102, 97, 108, 115, 101], .lit (.bool true)), (.string [105, 110, 116], .lit (.bool true)), (.string [115, 116, 114, 105, 110, 103], .lit (.bool true)), (.string [116, 114, 117, 101], .lit (.bool true))]

/-- 'types.LawS1985AReports': WHATEVER THE INPUT: true; the input reads as it did. -/
def lawS1985AReportsSpec : ChangeSpec := { name := "lawS1985AReports", vars := ["example.com/pinion/pinion/pkg/types.reservedNames", "example.com/pinion/pinion/pkg/types.unsupportedTypes"], fn := fun _ => fun
  | [d1, d2, d3, d4, d5, d6, d7, g1, g2] => { results := [.lit (.bool true)], args := [d1, d2, d3, d4, d5, d6, d7], vars := [g1, g2] }
  | _ => none }
def lawS1985AReportsRow : OpenClaim := { program := "ybulkaobwfmt", sum := "dbdc957d5b056f63ee1a2cabdf74026ed394fce712e8ffa4ce00772540335e1f", func := "example.com/pinion/pinion/pkg/types.LawS1985AReports", spec := "lawS1985AReports", stops := ["fmt.Sprintf, its operands' methods called"], inPlace := ["fmt.Sprintf"], unfollowed := true, recurses := true, named := ["example.com/pinion/pinion/pkg/types.reservedNames", "example.com/pinion/pinion/pkg/types.unsupportedTypes"], maps := true, plainKeys := false, apart := false, laid := [("example.com/pinion/pinion/pkg/types.unsupportedTypes", laid_example_com_pinion_pinion_pkg_types_unsupportedTypes), ("example.com/pinion/pinion/pkg/types.reservedNames", laid_example_com_pinion_pinion_pkg_types_reservedNames)] }
/-- NO THEOREM (fmt's text is open here; it may be false): for the released tool's asking of the row's closed facts alone. THE STATEMENT IS 'LawS1985AReportsToldSaid' (YbulkaobwFmtCards.lean). -/
def LawS1985AReportsFormAsk : Prop := lawS1985AReportsRow.holds Ybaf.pinned (OpenSpec.ofChange lawS1985AReportsSpec)

/-- ITS FALSE NEIGHBOUR: 'it returns false'. Refute it at one input. -/
def lawS1985AReportsWrong : ChangeSpec := { name := "lawS1985AReports", vars := ["example.com/pinion/pinion/pkg/types.reservedNames", "example.com/pinion/pinion/pkg/types.unsupportedTypes"], fn := fun _ => fun
  | [d1, d2, d3, d4, d5, d6, d7, g1, g2] => { results := [.lit (.bool false)], args := [d1, d2, d3, d4, d5, d6, d7], vars := [g1, g2] }
  | _ => none }
def LawS1985AReportsWrongFormAsk : Prop := lawS1985AReportsRow.holds Ybaf.pinned (OpenSpec.ofChange lawS1985AReportsWrong)

/-- 'types.LawS1985BReport': WHATEVER THE INPUT: true; the input reads as it did. -/
def lawS1985BReportSpec : ChangeSpec := { name := "lawS1985BReport", fn := fun _ => fun
  | [d1, d2, d3, d4, d5, d6] => { results := [.lit (.bool true)], args := [d1, d2, d3, d4, d5, d6] }
  | _ => none }
def lawS1985BReportRow : OpenClaim := { program := "ybulkaobwfmt", sum := "dbdc957d5b056f63ee1a2cabdf74026ed394fce712e8ffa4ce00772540335e1f", func := "example.com/pinion/pinion/pkg/types.LawS1985BReport", spec := "lawS1985BReport", stops := ["fmt.Sprintf, its operands' methods called"], inPlace := ["internal/abi.NoEscape", "internal/bytealg.MakeNoZero", "fmt.Sprintf"], unfollowed := true, recurses := true, plainKeys := false, apart := false }
/-- NO THEOREM (fmt's text is open here; it may be false): for the released tool's asking of the row's closed facts alone. THE STATEMENT IS 'LawS1985BReportToldSaid' (YbulkaobwFmtCards.lean). -/
def LawS1985BReportFormAsk : Prop := lawS1985BReportRow.holds Ybaf.pinned (OpenSpec.ofChange lawS1985BReportSpec)

/-- ITS FALSE NEIGHBOUR: 'it returns false'. Refute it at one input. -/
def lawS1985BReportWrong : ChangeSpec := { name := "lawS1985BReport", fn := fun _ => fun
  | [d1, d2, d3, d4, d5, d6] => { results := [.lit (.bool false)], args := [d1, d2, d3, d4, d5, d6] }
  | _ => none }
def LawS1985BReportWrongFormAsk : Prop := lawS1985BReportRow.holds Ybaf.pinned (OpenSpec.ofChange lawS1985BReportWrong)

end Rows
end Go.Proofs.YbulkaobwFmt
