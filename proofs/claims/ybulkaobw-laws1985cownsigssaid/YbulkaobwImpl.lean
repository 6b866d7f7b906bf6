import Derived.Test.YbulkaobwPick
import Derived.Deep.QuietTactic
import Derived.BigQuiet
import Derived.Deep.LoopGhost
import Derived.Deep.Light
import Derived.Deep.OwnRows
namespace Go.Proofs.Ybulkaobw
open Go.RowKit

/-- The first n looked-up values are the first n signatures. -/
def allEq (V S : Nat → ByteArray) (n : Nat) : Bool := (List.range n).all fun i => (V i).toList == (S i).toList

theorem allEq_true {V S : Nat → ByteArray} {n : Nat} (h : ∀ i, i < n → ((V i).toList == (S i).toList) = true) : allEq V S n = true := by
  unfold allEq
  rw [List.all_eq_true]
  intro i hi
  exact h i (List.mem_range.1 hi)
theorem allEq_false {V S : Nat → ByteArray} {n : Nat} {k : Nat} (hk : k < n) (h : ((V k).toList == (S k).toList) = false) : allEq V S n = false := by
  unfold allEq
  rw [List.all_eq_false]
  exact ⟨k, List.mem_range.2 hk, by rw [h]; simp⟩

theorem ret_bool {a b : Bool} (h : a = b) : Ending.returned (.bool a) = .returned (.bool b) := by rw [h]

set_option maxHeartbeats 400000 in
theorem impl_any (gb tb nb sb n c1 c2 : Nat) (mo : Option Nat) (N S V : Nat → ByteArray) (w : World) (hn : n ≤ 1024)
    (g0 : w.cell? ⟨gb, 0, none⟩ = some (.slice (some ⟨nb, 0, none⟩) n c1)) (g1 : w.cell? ⟨gb, 1, none⟩ = some (.slice (some ⟨sb, 0, none⟩) n c2))
    (t7 : w.cell? ⟨tb, 7, none⟩ = some (.map mo))
    (hN : ∀ i, i < n → w.cell? ⟨nb, i, none⟩ = some (.string (N i)))
    (hS : ∀ i, i < n → w.cell? ⟨sb, i, none⟩ = some (.string (S i)))
    (hL : ∀ i q, i < n → (Instr.lookup 31 (.map mo) (.string (N i)) false).run Yba.prog (w.drewN q) = .ok (.string (V i)) (w.drewN q)) :
    Calls Yba.prog 6 #[.pointer (some ⟨gb, 0, none⟩), .pointer (some ⟨tb, 0, none⟩)] w fun e w' => e = .returned (.bool (allEq V S n)) ∧ ∃ q, w' = w.drewN q := by
  have HN : Hid (∀ i, i < n → w.cell? ⟨nb, i, none⟩ = some (.string (N i))) := hN
  have HS : Hid (∀ i, i < n → w.cell? ⟨sb, i, none⟩ = some (.string (S i))) := hS
  have HL : Hid (∀ i q, i < n → (Instr.lookup 31 (.map mo) (.string (N i)) false).run Yba.prog (w.drewN q) = .ok (.string (V i)) (w.drewN q)) := hL
  clear hN hS hL
  go_enter Yba.func6, Yba.ntmps6
  go_wp2
  go_loopw [12] (fun i wr => ∃ k q : Nat, k ≤ n ∧ i = .int .i64 k ∧ wr = w.drewN q ∧ Hid (∀ j, j < k → ((V j).toList == (S j).toList) = true)) (fun i _ => n - (intOf i).toNat)
  case atStart => exact ⟨0, 0, Nat.zero_le _, rfl, rfl, fun j hj => absurd hj (Nat.not_lt_zero _)⟩
  case round =>
    obtain ⟨k, q, hk, rfl, rfl, hall⟩ := hrel
    by_cases hlt : k < n
    · have cN := HN.out k hlt
      have cS := HS.out k hlt
      have cL := fun q => HL.out k q hlt
      have h0 : (0 : Int) ≤ (k : Int) := by omega
      have h1 : (k : Int) < (n : Int) := by omega
      cases heq : ((V k).toList == (S k).toList)
      · go_wp2
        go_quiet (fail)
        go_wp2
        go_ret
        exact ⟨ret_bool (allEq_false hlt heq).symm, ⟨_, World.drewN_drewN _ _ _⟩⟩
      · go_wp2
        go_quiet (fail)
        go_wp2
        go_roundw
        case rel => exact ⟨k + 1, _, by omega, by go_num, rfl, fun j hj => (by
          by_cases hjk : j < k
          · exact hall.out j hjk
          · have : j = k := by omega
            subst this; exact heq)⟩
        case measure => simp [intOf]; omega
    · have hkn : k = n := by omega
      have HK : Hid (k = n) := hkn
      clear hkn
      go_wp2
      go_ret
      exact ⟨ret_bool (allEq_true (fun i hi => hall.out i (by have := HK.out; omega))).symm, ⟨_, rfl⟩⟩
end Go.Proofs.Ybulkaobw
