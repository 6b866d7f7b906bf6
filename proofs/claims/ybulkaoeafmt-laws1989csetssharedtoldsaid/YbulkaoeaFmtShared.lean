import Derived.Test.YbulkaoeaFmtWalk
namespace Go.Proofs.YbulkaoeaFmt
open Go.RowKit

theorem shared_neg (n head old : Int) (via : Bool) (w : World) (hn : n < 0) :
    Calls Ybaf.prog 3 #[.int .i64 n, .int .i64 head, .int .i64 old, .bool via] w fun e w' => e = .returned (.bool true) ∧ Below w.heap.size w w' := by
  go_enter Ybaf.func3, Ybaf.ntmps3
  go_wp2_with fail
  go_ret
  exact ⟨rfl, Below.refl _ _⟩

set_option maxHeartbeats 1000000 in
set_option maxRecDepth 100000 in
theorem shared_root (n head old : Int) (w : World) (hn : 0 ≤ n) :
    Calls Ybaf.prog 3 #[.int .i64 n, .int .i64 head, .int .i64 old, .bool false] w fun e w' => e = .returned (.bool true) ∧ Below w.heap.size w w' := by
  have q26 := Ybaf.neq26
  have q22 := Ybaf.eql22
  go_enter Ybaf.func3, Ybaf.ntmps3
  go_wp2_with fail
  refine (build_any head old w).mono ?_
  rintro e w1 ⟨rfl, g, cap, hb⟩
  obtain ⟨-, -, -, -, -, d0, -⟩ := hb.cells
  go_wp2_with fail
  refine (setDepth_any head old n g cap _ w w1 hb hn d0).mono ?_
  rintro e w2 ⟨rfl, hb2⟩
  clear d0 hb
  obtain ⟨a1, a2, a3, a6, a7, d0, d1, d2, d3, e0, e1, e2, e3⟩ := hb2.cells
  have r0 := hb2.row0
  have r1 := hb2.row1
  have hbel := hb2.bel
  clear hb2
  go_wp2_with fail
  go_ret
  exact ⟨rfl, hbel⟩

set_option maxHeartbeats 1000000 in
set_option maxRecDepth 100000 in
theorem shared_nested (n head old : Int) (w : World) (hn : 0 ≤ n) :
    Calls Ybaf.prog 3 #[.int .i64 n, .int .i64 head, .int .i64 old, .bool true] w fun e w' => e = .returned (.bool true) ∧ Below w.heap.size w w' := by
  have q26 := Ybaf.neq26
  have q22 := Ybaf.eql22
  go_enter Ybaf.func3, Ybaf.ntmps3
  go_wp2_with fail
  refine (build_any head old w).mono ?_
  rintro e w1 ⟨rfl, g, cap, hb⟩
  obtain ⟨-, -, -, -, -, -, -, -, -, d0, -⟩ := hb.cells
  go_wp2_with fail
  refine (setDepth_any head old n g cap _ w w1 hb hn d0).mono ?_
  rintro e w2 ⟨rfl, hb2⟩
  clear d0 hb
  obtain ⟨a1, a2, a3, a6, a7, d0, d1, d2, d3, e0, e1, e2, e3⟩ := hb2.cells
  have r0 := hb2.row0
  have r1 := hb2.row1
  have hbel := hb2.bel
  clear hb2
  go_wp2_with fail
  go_ret
  exact ⟨rfl, hbel⟩

theorem shared_walk (n head old : Int) (via : Bool) (w : World) :
    Calls Ybaf.prog 3 #[.int .i64 n, .int .i64 head, .int .i64 old, .bool via] w fun e w' => e = .returned (.bool true) ∧ Below w.heap.size w w' := by
  by_cases hn : n < 0
  · exact shared_neg n head old via w hn
  · cases via
    · exact shared_root n head old w (by omega)
    · exact shared_nested n head old w (by omega)
end Go.Proofs.YbulkaoeaFmt
