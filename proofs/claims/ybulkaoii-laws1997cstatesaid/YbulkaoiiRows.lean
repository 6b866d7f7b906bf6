/-
  No cell of these rows narrows 'for every input' (looked for: loops, veiled, ifaces, maps, wideKeys, modest, calm, conditions, laid).
  DERIVED. THE GIVEN ROWS OF THIS SEAT. 3 by the template 'for every input the law returns true; each argument reads behind the call as it read before'; 0 by the template 'total and deterministic' (their statements: YbulkaoiiTotals.lean).
  GIVEN WITH THE SEED: the statements are not yours to turn. If you find one false, say at which input.
  Laid BY PROGRAM, IN A SANDBOX (cutbox-rows.mjs): the forced cells as the released guide's own fill.sh prints them over the translation b0ebb2b1ce371c0c… (all of the seat's roots in one cut). By AI agents, Wed Nov 11 2026. No macro, syntax, notation, axiom, sorry.
-/
import Derived.Test.YbulkaoiiChecked
import GoSem.Claim
import GoSem.ClaimJoined
import GoSem.ClaimMapViews
import Derived.JoinedTies
import Derived.KernelRfl
namespace Go.Proofs.Ybulkaoii
/- THE CELL 'sum', in the pinned program and in every row, IS THE sha256 OF THE DUMP (.gsa) THAT YbulkaoiiProg.lean LOADS. Nothing in Lean hashes anything: it is a label: what it is worth is what the hold of that sum in a sandbox is worth. -/
noncomputable def Yba.pinned : Pinned := { name := "ybulkaoii", sum := "b0ebb2b1ce371c0c50c392ab8b5c3b29fd8014573de4c92990f51a88c9920470", checked := Yba.checked }
namespace Rows
def none {H : Type} : Left H := { results := [], args := [] }

/-- 'inione.LawS1997AMatches': WHATEVER THE INPUT: true; the input reads as it did. -/
def lawS1997AMatchesSpec : ChangeSpec := { name := "lawS1997AMatches", fn := fun _ => fun
  | [d1, d2, d3, d4, d5, d6, d7] => { results := [.lit (.bool true)], args := [d1, d2, d3, d4, d5, d6, d7] }
  | _ => none }
def lawS1997AMatchesRow : OpenClaim := { program := "ybulkaoii", sum := "b0ebb2b1ce371c0c50c392ab8b5c3b29fd8014573de4c92990f51a88c9920470", func := "example.com/ini-into-one/ini-into-one/pkg/inione.LawS1997AMatches", spec := "lawS1997AMatches", inPlace := ["internal/bytealg.IndexByteString", "internal/bytealg.IndexString"], unfollowed := true, recurses := true, named := ["internal/bytealg.MaxLen"], apart := false }
def LawS1997AMatchesSaid : Prop := lawS1997AMatchesRow.holds Yba.pinned (OpenSpec.ofChange lawS1997AMatchesSpec)

/-- ITS FALSE NEIGHBOUR: 'it returns false'. Refute it at one input. -/
def lawS1997AMatchesWrong : ChangeSpec := { name := "lawS1997AMatches", fn := fun _ => fun
  | [d1, d2, d3, d4, d5, d6, d7] => { results := [.lit (.bool false)], args := [d1, d2, d3, d4, d5, d6, d7] }
  | _ => none }
def LawS1997AMatchesWrongFalsely : Prop := lawS1997AMatchesRow.holds Yba.pinned (OpenSpec.ofChange lawS1997AMatchesWrong)

/-- 'inione.LawS1997CAnswers': WHATEVER THE INPUT: true; the input reads as it did. -/
def lawS1997CAnswersSpec : ChangeSpec := { name := "lawS1997CAnswers", fn := fun _ => fun
  | [d1, d2, d3, d4] => { results := [.lit (.bool true)], args := [d1, d2, d3, d4] }
  | _ => none }
def lawS1997CAnswersRow : OpenClaim := { program := "ybulkaoii", sum := "b0ebb2b1ce371c0c50c392ab8b5c3b29fd8014573de4c92990f51a88c9920470", func := "example.com/ini-into-one/ini-into-one/pkg/inione.LawS1997CAnswers", spec := "lawS1997CAnswers", unfollowed := true, recurses := true, apart := false }
def LawS1997CAnswersSaid : Prop := lawS1997CAnswersRow.holds Yba.pinned (OpenSpec.ofChange lawS1997CAnswersSpec)

/-- ITS FALSE NEIGHBOUR: 'it returns false'. Refute it at one input. -/
def lawS1997CAnswersWrong : ChangeSpec := { name := "lawS1997CAnswers", fn := fun _ => fun
  | [d1, d2, d3, d4] => { results := [.lit (.bool false)], args := [d1, d2, d3, d4] }
  | _ => none }
def LawS1997CAnswersWrongFalsely : Prop := lawS1997CAnswersRow.holds Yba.pinned (OpenSpec.ofChange lawS1997CAnswersWrong)

/-- 'inione.LawS1997CState': WHATEVER THE INPUT: true; the input reads as it did. -/
def lawS1997CStateSpec : ChangeSpec := { name := "lawS1997CState", fn := fun _ => fun
  | [d1, d2, d3, d4] => { results := [.lit (.bool true)], args := [d1, d2, d3, d4] }
  | _ => none }
def lawS1997CStateRow : OpenClaim := { program := "ybulkaoii", sum := "b0ebb2b1ce371c0c50c392ab8b5c3b29fd8014573de4c92990f51a88c9920470", func := "example.com/ini-into-one/ini-into-one/pkg/inione.LawS1997CState", spec := "lawS1997CState", unfollowed := true, recurses := true, apart := false }
def LawS1997CStateSaid : Prop := lawS1997CStateRow.holds Yba.pinned (OpenSpec.ofChange lawS1997CStateSpec)

/-- ITS FALSE NEIGHBOUR: 'it returns false'. Refute it at one input. -/
def lawS1997CStateWrong : ChangeSpec := { name := "lawS1997CState", fn := fun _ => fun
  | [d1, d2, d3, d4] => { results := [.lit (.bool false)], args := [d1, d2, d3, d4] }
  | _ => none }
def LawS1997CStateWrongFalsely : Prop := lawS1997CStateRow.holds Yba.pinned (OpenSpec.ofChange lawS1997CStateWrong)

end Rows
end Go.Proofs.Ybulkaoii
