import Derived.Test.YbulkaoeaFmtRows
import Derived.WalkKit
import Derived.WalkSpells
import Derived.ProofKit
import Derived.Deep.AppendLies
import Derived.Deep.OwnRows
import Derived.LaidEqlPtr
import Derived.Lib.Builder
import Derived.Outline
import Derived.Deep.Light
namespace Go.Proofs.YbulkaoeaFmt
open Go.RowKit

theorem Ybaf.info22 : (Ybaf.prog.info? 22).map (fun i => (i.zero, i.size, i.bytes)) = some (some (.pointer none), 1, 8) := by kernel_rfl

/-- The input that the readers share. -/
def inRow (head depth : Int) (g cap : Nat) : Array Value := #[.pointer none, .int .i64 7, .int .i64 head, .int .i64 depth, .slice none 0 0, .pointer none, .int .i64 1, .slice (some ⟨g, 0, none⟩) 2 cap, .nilIface]

/-- WHAT zzs1989cbuild LEAVES. -/
structure Built (w0 w : World) (head depth : Int) (g cap : Nat) : Prop where
  bel : Below w0.heap.size w0 w
  inn : w.heap[w0.heap.size]? = some (.cells (inRow head depth g cap) 36 (0, 0))
  root : w.heap[w0.heap.size + 1]? = some (.cells #[.pointer (some ⟨w0.heap.size, 0, none⟩), .int .i64 0, .int .i64 0, .nilIface] 30 (0, 0))
  nest : w.heap[w0.heap.size + 1 + 1]? = some (.cells #[.pointer (some ⟨w0.heap.size, 0, none⟩), .int .i64 1, .int .i64 0, .nilIface] 30 (0, 0))
  row0 : w.cell? ⟨g, 0, none⟩ = some (.pointer (some ⟨w0.heap.size + 1, 0, none⟩))
  row1 : w.cell? ⟨g, 1, none⟩ = some (.pointer (some ⟨w0.heap.size + 1 + 1, 0, none⟩))
  gne : g ≠ w0.heap.size

theorem push5 (h : Array Obj) (a b c d e : Obj) : (((((h.push a).push b).push c).push d).push e)[h.size]? = some a ∧ (((((h.push a).push b).push c).push d).push e)[h.size + 1]? = some b ∧
    (((((h.push a).push b).push c).push d).push e)[h.size + 1 + 1]? = some c ∧ (((((h.push a).push b).push c).push d).push e)[h.size + 1 + 1 + 1 + 1]? = some e := by
  refine ⟨?_, ?_, ?_, ?_⟩
  · rw [Array.getElem?_push, if_neg (by simp only [Array.size_push]; omega), Array.getElem?_push, if_neg (by simp only [Array.size_push]; omega), Array.getElem?_push, if_neg (by simp only [Array.size_push]; omega), Array.getElem?_push, if_neg (by simp only [Array.size_push]; omega), Array.getElem?_push, if_pos rfl]
  · rw [Array.getElem?_push, if_neg (by simp only [Array.size_push]; omega), Array.getElem?_push, if_neg (by simp only [Array.size_push]; omega), Array.getElem?_push, if_neg (by simp only [Array.size_push]; omega), Array.getElem?_push, if_pos (by simp only [Array.size_push])]
  · rw [Array.getElem?_push, if_neg (by simp only [Array.size_push]; omega), Array.getElem?_push, if_neg (by simp only [Array.size_push]; omega), Array.getElem?_push, if_pos (by simp only [Array.size_push])]
  · rw [Array.getElem?_push, if_pos (by simp only [Array.size_push])]

theorem built_mk (w : World) (head depth : Int) (cap : Nat) (S : Obj) (X : Array Value) (h0 : X[0]? = some (.pointer (some ⟨w.heap.size + 1, 0, none⟩))) (h1 : X[1]? = some (.pointer (some ⟨w.heap.size + 1 + 1, 0, none⟩))) :
    Built w (((((w.alloc (.cells (inRow head depth (w.heap.size + 1 + 1 + 1 + 1) cap) 36)).alloc (.cells #[.pointer (some ⟨w.heap.size, 0, none⟩), .int .i64 0, .int .i64 0, .nilIface] 30)).alloc (.cells #[.pointer (some ⟨w.heap.size, 0, none⟩), .int .i64 1, .int .i64 0, .nilIface] 30)).alloc S).alloc (.cells X 22)).drew head depth (w.heap.size + 1 + 1 + 1 + 1) cap := by
  refine ⟨?_, ?_, ?_, ?_, ?_, ?_, by omega⟩
  · exact ((((((Below.refl w.heap.size w).alloc (Nat.le_refl _) _).alloc (by simp) _).alloc (by simp; omega) _).alloc (by simp; omega) _).alloc (by simp; omega) _).drew
  · show (((((w.heap.push _).push _).push _).push _).push _)[w.heap.size]? = _
    exact (push5 _ _ _ _ _ _).1
  · show (((((w.heap.push _).push _).push _).push _).push _)[w.heap.size + 1]? = _
    exact (push5 _ _ _ _ _ _).2.1
  · show (((((w.heap.push _).push _).push _).push _).push _)[w.heap.size + 1 + 1]? = _
    exact (push5 _ _ _ _ _ _).2.2.1
  · have : (((((w.alloc (.cells (inRow head depth (w.heap.size + 1 + 1 + 1 + 1) cap) 36)).alloc (.cells #[.pointer (some ⟨w.heap.size, 0, none⟩), .int .i64 0, .int .i64 0, .nilIface] 30)).alloc (.cells #[.pointer (some ⟨w.heap.size, 0, none⟩), .int .i64 1, .int .i64 0, .nilIface] 30)).alloc S).alloc (.cells X 22)).drew.heap[w.heap.size + 1 + 1 + 1 + 1]? = some (.cells X 22 (0, 0)) := by
      show (((((w.heap.push _).push _).push _).push _).push _)[w.heap.size + 1 + 1 + 1 + 1]? = _
      exact (push5 _ _ _ _ _ _).2.2.2
    rw [cell_of_row _ _ _ _ _ _ this]
    exact h0
  · have : (((((w.alloc (.cells (inRow head depth (w.heap.size + 1 + 1 + 1 + 1) cap) 36)).alloc (.cells #[.pointer (some ⟨w.heap.size, 0, none⟩), .int .i64 0, .int .i64 0, .nilIface] 30)).alloc (.cells #[.pointer (some ⟨w.heap.size, 0, none⟩), .int .i64 1, .int .i64 0, .nilIface] 30)).alloc S).alloc (.cells X 22)).drew.heap[w.heap.size + 1 + 1 + 1 + 1]? = some (.cells X 22 (0, 0)) := by
      show (((((w.heap.push _).push _).push _).push _).push _)[w.heap.size + 1 + 1 + 1 + 1]? = _
      exact (push5 _ _ _ _ _ _).2.2.2
    rw [cell_of_row _ _ _ _ _ _ this]
    exact h1

set_option maxHeartbeats 400000 in
theorem build_any (head depth : Int) (w : World) :
    Calls Ybaf.prog 5 #[.int .i64 head, .int .i64 depth] w fun e w' => e = .returned (.tuple #[.pointer (some ⟨w.heap.size + 1, 0, none⟩), .pointer (some ⟨w.heap.size + 1 + 1, 0, none⟩)]) ∧ ∃ g cap, Built w w' head depth g cap := by
  go_enter Ybaf.func5, Ybaf.ntmps5
  go_wp2
  go_ret2
  refine ⟨rfl, _, _, built_mk w head depth _ _ _ ?_ ?_⟩
  · rw [Array.getElem?_append_left (by simp)]; rfl
  · rw [Array.getElem?_append_left (by simp)]; rfl

theorem set_block (w : World) (b j : Nat) (c : Array Value) (t : TypeId) (v : Value) (h : w.heap[b]? = some (.cells c t (0, 0))) : (w.setCell ⟨b, j, none⟩ v).heap[b]? = some (.cells (c.setIfInBounds j v) t (0, 0)) := by
  simp [World.setCell, Array.getElem?_modify, h]

theorem Built.set {w0 w : World} {head depth head' depth' : Int} {g cap : Nat} (h : Built w0 w head depth g cap) (j : Nat) (v : Value) (e : (inRow head depth g cap).setIfInBounds j v = inRow head' depth' g cap) : Built w0 (w.setCell ⟨w0.heap.size, j, none⟩ v) head' depth' g cap := by
  refine ⟨h.bel.setCell (Nat.le_refl _) v, ?_, ?_, ?_, ?_, ?_, h.gne⟩
  · rw [set_block _ _ _ _ _ _ h.inn, e]
  · rw [Below.heap_setCell _ _ _ _ (by simp)]; exact h.root
  · rw [Below.heap_setCell _ _ _ _ (by simp; omega)]; exact h.nest
  · exact (World.cell?_of_block (w := w) (Below.heap_setCell _ _ _ _ h.gne)).trans h.row0
  · exact (World.cell?_of_block (w := w) (Below.heap_setCell _ _ _ _ h.gne)).trans h.row1

/-- (*JSONStreamReader).SetMaxDepth of either reader. -/
theorem setDepth_any (head depth n : Int) (g cap rb : Nat) (w0 w : World) (h : Built w0 w head depth g cap) (hn : 0 ≤ n) (hr : w.cell? ⟨rb, 0, none⟩ = some (.pointer (some ⟨w0.heap.size, 0, none⟩))) :
    Calls Ybaf.prog 6 #[.pointer (some ⟨rb, 0, none⟩), .int .i64 n] w fun e w' => e = .returned (.tuple #[]) ∧ Built w0 w' head n g cap := by
  have c3 : w.cell? ⟨w0.heap.size, 3, none⟩ = some (.int .i64 depth) := by rw [cell_of_row _ _ _ _ _ _ h.inn]; rfl
  have f3 : w.frozen? ⟨w0.heap.size, 3, none⟩ = false := by simp [World.frozen?, h.inn]
  go_enter Ybaf.func6, Ybaf.ntmps6
  go_wp2_with fail
  go_end0
  exact ⟨rfl, h.set 3 _ rfl⟩

theorem setHead_any (head depth n : Int) (g cap rb : Nat) (w0 w : World) (h : Built w0 w head depth g cap) (hn : 1 ≤ n) (hr : w.cell? ⟨rb, 0, none⟩ = some (.pointer (some ⟨w0.heap.size, 0, none⟩))) :
    Calls Ybaf.prog 7 #[.pointer (some ⟨rb, 0, none⟩), .int .i64 n] w fun e w' => e = .returned (.tuple #[]) ∧ Built w0 w' n depth g cap := by
  have c3 : w.cell? ⟨w0.heap.size, 2, none⟩ = some (.int .i64 head) := by rw [cell_of_row _ _ _ _ _ _ h.inn]; rfl
  have f3 : w.frozen? ⟨w0.heap.size, 2, none⟩ = false := by simp [World.frozen?, h.inn]
  go_enter Ybaf.func7, Ybaf.ntmps7
  go_wp2_with fail
  go_end0
  exact ⟨rfl, h.set 2 _ rfl⟩

theorem Built.cells {w0 w : World} {head depth : Int} {g cap : Nat} (h : Built w0 w head depth g cap) :
    w.cell? ⟨w0.heap.size, 1, none⟩ = some (.int .i64 7) ∧ w.cell? ⟨w0.heap.size, 2, none⟩ = some (.int .i64 head) ∧ w.cell? ⟨w0.heap.size, 3, none⟩ = some (.int .i64 depth) ∧ w.cell? ⟨w0.heap.size, 6, none⟩ = some (.int .i64 1) ∧
    w.cell? ⟨w0.heap.size, 7, none⟩ = some (.slice (some ⟨g, 0, none⟩) 2 cap) ∧
    w.cell? ⟨w0.heap.size + 1, 0, none⟩ = some (.pointer (some ⟨w0.heap.size, 0, none⟩)) ∧ w.cell? ⟨w0.heap.size + 1, 1, none⟩ = some (.int .i64 0) ∧ w.cell? ⟨w0.heap.size + 1, 2, none⟩ = some (.int .i64 0) ∧ w.cell? ⟨w0.heap.size + 1, 3, none⟩ = some .nilIface ∧
    w.cell? ⟨w0.heap.size + 1 + 1, 0, none⟩ = some (.pointer (some ⟨w0.heap.size, 0, none⟩)) ∧ w.cell? ⟨w0.heap.size + 1 + 1, 1, none⟩ = some (.int .i64 1) ∧ w.cell? ⟨w0.heap.size + 1 + 1, 2, none⟩ = some (.int .i64 0) ∧ w.cell? ⟨w0.heap.size + 1 + 1, 3, none⟩ = some .nilIface := by
  refine ⟨?_, ?_, ?_, ?_, ?_, ?_, ?_, ?_, ?_, ?_, ?_, ?_, ?_⟩
  all_goals first | (rw [cell_of_row _ _ _ _ _ _ h.inn]; rfl) | (rw [cell_of_row _ _ _ _ _ _ h.root]; rfl) | (rw [cell_of_row _ _ _ _ _ _ h.nest]; rfl)

theorem Ybaf.neq26 (a : Addr) (w : World) : (binOp .neq 26 (.pointer (some a)) (.pointer (some a))).run Ybaf.prog w = .ok (.bool false) w := by
  obtain ⟨j, hj⟩ := Option.isSome_iff_exists.1 (show (Ybaf.prog.info? 36).isSome = true by kernel_rfl)
  exact Lib.run_neq_ptr_same w a Ybaf.underlying26 hj
theorem Ybaf.eql22 (a : Addr) (w : World) : (binOp .eql 22 (.pointer (some a)) (.pointer (some a))).run Ybaf.prog w = .ok (.bool true) w := by
  obtain ⟨j, hj⟩ := Option.isSome_iff_exists.1 (show (Ybaf.prog.info? 30).isSome = true by kernel_rfl)
  exact run_eql_ptr_same w a Ybaf.underlying22 hj

end Go.Proofs.YbulkaoeaFmt
