import Derived.Test.YbulkaoeaFmtWalk
namespace Go.Proofs.YbulkaoeaFmt
open Go.RowKit

theorem last_early (a b h : Int) (w : World) (hd : a < 0 ∨ b < 0 ∨ h < 1) :
    Calls Ybaf.prog 4 #[.int .i64 a, .int .i64 b, .int .i64 h] w fun e w' => e = .returned (.bool true) ∧ Below w.heap.size w w' := by
  by_cases h0 : a < 0
  · go_enter Ybaf.func4, Ybaf.ntmps4
    go_wp2_with fail
    go_ret
    exact ⟨rfl, Below.refl _ _⟩
  by_cases h1 : b < 0
  · go_enter Ybaf.func4, Ybaf.ntmps4
    go_wp2_with fail
    go_ret
    exact ⟨rfl, Below.refl _ _⟩
  have h2 : h < 1 := by omega
  go_enter Ybaf.func4, Ybaf.ntmps4
  go_wp2_with fail
  go_ret
  exact ⟨rfl, Below.refl _ _⟩

set_option maxHeartbeats 1000000 in
set_option maxRecDepth 100000 in
theorem last_late (a b h : Int) (w : World) (ha : 0 ≤ a) (hb0 : 0 ≤ b) (hh : 1 ≤ h) :
    Calls Ybaf.prog 4 #[.int .i64 a, .int .i64 b, .int .i64 h] w fun e w' => e = .returned (.bool true) ∧ Below w.heap.size w w' := by
  go_enter Ybaf.func4, Ybaf.ntmps4
  go_wp2_with fail
  refine (build_any 1048576 10000 w).mono ?_
  rintro e w1 ⟨rfl, g, cap, hb⟩
  obtain ⟨-, -, -, -, -, d0, -⟩ := hb.cells
  go_wp2_with fail
  refine (setDepth_any 1048576 10000 a g cap _ w w1 hb ha d0).mono ?_
  rintro e w2 ⟨rfl, hb2⟩
  clear d0 hb
  obtain ⟨-, -, a3, -, -, d0, -⟩ := hb2.cells
  go_wp2_with fail
  refine (setHead_any 1048576 a h g cap _ w w2 hb2 hh d0).mono ?_
  rintro e w3 ⟨rfl, hb3⟩
  clear d0 hb2 a3
  obtain ⟨-, a2, a3, -, -, d0, -⟩ := hb3.cells
  go_wp2_with fail
  refine (setDepth_any h a b g cap _ w w3 hb3 hb0 d0).mono ?_
  rintro e w4 ⟨rfl, hb4⟩
  clear d0 hb3 a2 a3
  obtain ⟨-, a2, a3, -, -, d0, -⟩ := hb4.cells
  have hbel := hb4.bel
  clear hb4
  go_wp2_with fail
  go_ret
  exact ⟨rfl, hbel⟩

theorem last_walk (a b h : Int) (w : World) :
    Calls Ybaf.prog 4 #[.int .i64 a, .int .i64 b, .int .i64 h] w fun e w' => e = .returned (.bool true) ∧ Below w.heap.size w w' := by
  by_cases hd : a < 0 ∨ b < 0 ∨ h < 1
  · exact last_early a b h w hd
  · exact last_late a b h w (by omega) (by omega) (by omega)
end Go.Proofs.YbulkaoeaFmt
