/-
  No cell of these rows narrows 'for every input' (looked for: loops, veiled, ifaces, maps, wideKeys, modest, calm, conditions, laid).
  DERIVED. THE GIVEN ROWS OF THIS SEAT. 2 by the template 'for every input the law returns true; each argument reads behind the call as it read before'; 0 by the template 'total and deterministic' (their statements: YbulkaoeaFmtTotals.lean).
  GIVEN WITH THE SEED: the statements are not yours to turn. If you find one false, say at which input.
  Laid BY PROGRAM, IN A SANDBOX (cutbox-rows.mjs): the forced cells as the released guide's own fill.sh prints them over the translation d022c4b7f4d2491f… (all of the seat's roots in one cut). By AI agents, Wed Nov 11 2026. No macro, syntax, notation, axiom, sorry.
-/
import Derived.Test.YbulkaoeaFmtChecked
import GoSem.Claim
import GoSem.ClaimJoined
import GoSem.ClaimMapViews
import Derived.JoinedTies
import Derived.KernelRfl
namespace Go.Proofs.YbulkaoeaFmt
/- THE CELL 'sum', in the pinned program and in every row, IS THE sha256 OF THE DUMP (.gsa) THAT YbulkaoeaFmtProg.lean LOADS. Nothing in Lean hashes anything: it is a label: what it is worth is what the hold of that sum in a sandbox is worth. -/
noncomputable def Ybaf.pinned : Pinned := { name := "ybulkaoeafmt", sum := "d022c4b7f4d2491f0799577d7f8eea750dc78491370fa27c177cb0b6b9af1bf7", checked := Ybaf.checked }
namespace Rows
def none {H : Type} : Left H := { results := [], args := [] }

/-- 'framelet.LawS1989CSetsShared': WHATEVER THE INPUT: true; the input reads as it did. -/
def lawS1989CSetsSharedSpec : ChangeSpec := { name := "lawS1989CSetsShared", fn := fun _ => fun
  | [d1, d2, d3, d4] => { results := [.lit (.bool true)], args := [d1, d2, d3, d4] }
  | _ => none }
def lawS1989CSetsSharedRow : OpenClaim := { program := "ybulkaoeafmt", sum := "d022c4b7f4d2491f0799577d7f8eea750dc78491370fa27c177cb0b6b9af1bf7", func := "example.com/framelet/framelet.LawS1989CSetsShared", spec := "lawS1989CSetsShared", stops := ["fmt.Sprintf"], inPlace := ["fmt.Sprintf"], apart := false }
/-- NO THEOREM (fmt's text is open here; it may be false): for the released tool's asking of the row's closed facts alone. THE STATEMENT IS 'LawS1989CSetsSharedToldSaid' (YbulkaoeaFmtCards.lean). -/
def LawS1989CSetsSharedFormAsk : Prop := lawS1989CSetsSharedRow.holds Ybaf.pinned (OpenSpec.ofChange lawS1989CSetsSharedSpec)

/-- ITS FALSE NEIGHBOUR: 'it returns false'. Refute it at one input. -/
def lawS1989CSetsSharedWrong : ChangeSpec := { name := "lawS1989CSetsShared", fn := fun _ => fun
  | [d1, d2, d3, d4] => { results := [.lit (.bool false)], args := [d1, d2, d3, d4] }
  | _ => none }
def LawS1989CSetsSharedWrongFormAsk : Prop := lawS1989CSetsSharedRow.holds Ybaf.pinned (OpenSpec.ofChange lawS1989CSetsSharedWrong)

/-- 'framelet.LawS1989CLastWins': WHATEVER THE INPUT: true; the input reads as it did. -/
def lawS1989CLastWinsSpec : ChangeSpec := { name := "lawS1989CLastWins", fn := fun _ => fun
  | [d1, d2, d3] => { results := [.lit (.bool true)], args := [d1, d2, d3] }
  | _ => none }
def lawS1989CLastWinsRow : OpenClaim := { program := "ybulkaoeafmt", sum := "d022c4b7f4d2491f0799577d7f8eea750dc78491370fa27c177cb0b6b9af1bf7", func := "example.com/framelet/framelet.LawS1989CLastWins", spec := "lawS1989CLastWins", stops := ["fmt.Sprintf"], inPlace := ["fmt.Sprintf"], apart := false }
/-- NO THEOREM (fmt's text is open here; it may be false): for the released tool's asking of the row's closed facts alone. THE STATEMENT IS 'LawS1989CLastWinsToldSaid' (YbulkaoeaFmtCards.lean). -/
def LawS1989CLastWinsFormAsk : Prop := lawS1989CLastWinsRow.holds Ybaf.pinned (OpenSpec.ofChange lawS1989CLastWinsSpec)

/-- ITS FALSE NEIGHBOUR: 'it returns false'. Refute it at one input. -/
def lawS1989CLastWinsWrong : ChangeSpec := { name := "lawS1989CLastWins", fn := fun _ => fun
  | [d1, d2, d3] => { results := [.lit (.bool false)], args := [d1, d2, d3] }
  | _ => none }
def LawS1989CLastWinsWrongFormAsk : Prop := lawS1989CLastWinsRow.holds Ybaf.pinned (OpenSpec.ofChange lawS1989CLastWinsWrong)

end Rows
end Go.Proofs.YbulkaoeaFmt
