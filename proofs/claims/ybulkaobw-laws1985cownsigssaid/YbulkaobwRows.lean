/-
  No cell of these rows narrows 'for every input' (looked for: loops, veiled, ifaces, maps, wideKeys, modest, calm, conditions, laid).
  DERIVED. THE GIVEN ROWS OF THIS SEAT. 2 by the template 'for every input the law returns true; each argument reads behind the call as it read before'; 0 by the template 'total and deterministic' (their statements: YbulkaobwTotals.lean).
  GIVEN WITH THE SEED: the statements are not yours to turn. If you find one false, say at which input.
  Laid BY PROGRAM, IN A SANDBOX (cutbox-rows.mjs): the forced cells as the released guide's own fill.sh prints them over the translation 2d3f82c98805c137… (all of the seat's roots in one cut). By AI agents, Wed Nov 11 2026. No macro, syntax, notation, axiom, sorry.
-/
import Derived.Test.YbulkaobwChecked
import GoSem.Claim
import GoSem.ClaimJoined
import GoSem.ClaimMapViews
import Derived.JoinedTies
import Derived.KernelRfl
namespace Go.Proofs.Ybulkaobw
/- THE CELL 'sum', in the pinned program and in every row, IS THE sha256 OF THE DUMP (.gsa) THAT YbulkaobwProg.lean LOADS. Nothing in Lean hashes anything: it is a label: what it is worth is what the hold of that sum in a sandbox is worth. -/
noncomputable def Yba.pinned : Pinned := { name := "ybulkaobw", sum := "2d3f82c98805c137bfd277628f38e7caa855b7f4fe040e8b25fe313ae18216de", checked := Yba.checked }
namespace Rows
def none {H : Type} : Left H := { results := [], args := [] }

/-- 'mono.LawS1985CModel': WHATEVER THE INPUT: true; the input reads as it did. -/
def lawS1985CModelSpec : ChangeSpec := { name := "lawS1985CModel", fn := fun _ => fun
  | [d1, d2, d3, d4] => { results := [.lit (.bool true)], args := [d1, d2, d3, d4] }
  | _ => none }
def lawS1985CModelRow : OpenClaim := { program := "ybulkaobw", sum := "2d3f82c98805c137bfd277628f38e7caa855b7f4fe040e8b25fe313ae18216de", func := "example.com/pinion/pinion/pkg/mono.LawS1985CModel", spec := "lawS1985CModel", apart := false }
def LawS1985CModelSaid : Prop := lawS1985CModelRow.holds Yba.pinned (OpenSpec.ofChange lawS1985CModelSpec)

/-- ITS FALSE NEIGHBOUR: 'it returns false'. Refute it at one input. -/
def lawS1985CModelWrong : ChangeSpec := { name := "lawS1985CModel", fn := fun _ => fun
  | [d1, d2, d3, d4] => { results := [.lit (.bool false)], args := [d1, d2, d3, d4] }
  | _ => none }
def LawS1985CModelWrongFalsely : Prop := lawS1985CModelRow.holds Yba.pinned (OpenSpec.ofChange lawS1985CModelWrong)

/-- 'mono.LawS1985COwnSigs': WHATEVER THE INPUT: true; the input reads as it did. -/
def lawS1985COwnSigsSpec : ChangeSpec := { name := "lawS1985COwnSigs", fn := fun _ => fun
  | [d1, d2] => { results := [.lit (.bool true)], args := [d1, d2] }
  | _ => none }
def lawS1985COwnSigsRow : OpenClaim := { program := "ybulkaobw", sum := "2d3f82c98805c137bfd277628f38e7caa855b7f4fe040e8b25fe313ae18216de", func := "example.com/pinion/pinion/pkg/mono.LawS1985COwnSigs", spec := "lawS1985COwnSigs", apart := false }
def LawS1985COwnSigsSaid : Prop := lawS1985COwnSigsRow.holds Yba.pinned (OpenSpec.ofChange lawS1985COwnSigsSpec)

/-- ITS FALSE NEIGHBOUR: 'it returns false'. Refute it at one input. -/
def lawS1985COwnSigsWrong : ChangeSpec := { name := "lawS1985COwnSigs", fn := fun _ => fun
  | [d1, d2] => { results := [.lit (.bool false)], args := [d1, d2] }
  | _ => none }
def LawS1985COwnSigsWrongFalsely : Prop := lawS1985COwnSigsRow.holds Yba.pinned (OpenSpec.ofChange lawS1985COwnSigsWrong)

end Rows
end Go.Proofs.Ybulkaobw
