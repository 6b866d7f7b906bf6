import Derived.Test.YbulkaobwRows
import Derived.WalkKit
import Derived.WalkSpells
import Derived.ProofKit
namespace Go.Proofs.Ybulkaobw
open Go.RowKit

/-- WHAT zzs1985cpick GIVES. -/
def pickB (z : Int) : ByteArray := if z % 4 = 0 then ⟨#[97]⟩ else if z % 4 = 1 then ⟨#[98]⟩ else if z % 4 = 2 then ⟨#[99]⟩ else ⟨#[]⟩

theorem pick_any (z : Int) (w : World) (h0 : 0 ≤ z) (h1 : z ≤ 255) :
    Calls Yba.prog 5 #[.int .u8 z] w fun e w' => e = .returned (.string (pickB z)) ∧ w = w' := by
  have h4 : z % 4 = 0 ∨ z % 4 = 1 ∨ z % 4 = 2 ∨ z % 4 = 3 := by omega
  unfold pickB
  rcases h4 with h | h | h | h
  all_goals
    go_enter Yba.func5, Yba.ntmps5
    go_wp2
    go_ret
    exact ⟨by simp, rfl⟩
end Go.Proofs.Ybulkaobw
