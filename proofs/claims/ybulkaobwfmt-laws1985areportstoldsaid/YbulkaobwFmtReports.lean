import Derived.Test.YbulkaobwFmtRedecl
import Derived.Test.YbulkaobwFmtNames
import Derived.Test.YbulkaobwFmtPick
import Derived.Lib.Builder
namespace Go.Proofs.YbulkaobwFmt
open Go.RowKit
set_option linter.unusedVariables false

/-- Pointers to the blocks bs. -/
def ptrs (bs : List Nat) : List Value := bs.map fun b => .pointer (some ⟨b, 0, none⟩)

/-- The two lists of errors that the law keeps, in memory. -/
structure Two (w0 w : World) (ge ce gk ck i : Nat) (bs : List Nat) : Prop where
  bel : Below w0.heap.size w0 w
  oe : w.ownsRow w0.heap.size 24 1 (.slice (some ⟨ge, 0, none⟩) i ce) i (ptrs bs)
  ok : w.ownsRow w0.heap.size 24 1 (.slice (some ⟨gk, 0, none⟩) i ck) i (ptrs bs)
  ne : ge ≠ gk
  lt1 : ge < w.heap.size
  lt2 : gk < w.heap.size
  le1 : w0.heap.size ≤ ge
  le2 : w0.heap.size ≤ gk

theorem Two.made {w w1 : World} (hb : Below w.heap.size w w1) : Two w ((w1.alloc (.cells #[] 24)).alloc (.cells #[] 24)) w1.heap.size 0 (w1.heap.size + 1) 0 0 [] := by
  have hs := hb.size
  refine ⟨(hb.alloc hs _).alloc (by simp; omega) _, ⟨rfl, Or.inr ⟨_, 0, #[], rfl, hs, ?_, Nat.le_refl _, Nat.zero_le _, rfl, rfl⟩⟩, ⟨rfl, Or.inr ⟨_, 0, #[], rfl, by omega, ?_, Nat.le_refl _, Nat.zero_le _, rfl, rfl⟩⟩, by omega, by simp; omega, by simp, hs, by omega⟩
  · show ((w1.heap.push _).push _)[w1.heap.size]? = _
    rw [Array.getElem?_push, if_neg (by simp), Array.getElem?_push, if_pos rfl]
  · show ((w1.heap.push _).push _)[w1.heap.size + 1]? = _
    rw [Array.getElem?_push, if_pos (by simp)]

/-- Both appends of one round. -/
theorem Two.step {w0 w w1 w2 : World} {ge ce gk ck i eb g1 c1 g2 c2 : Nat} {bs : List Nat} (h : Two w0 w ge ce gk ck i bs)
    (o1 : w1.ownsRow w0.heap.size 24 1 (.slice (some ⟨g1, 0, none⟩) (i + 1) c1) (i + 1) (ptrs bs ++ [.pointer (some ⟨eb, 0, none⟩)])) (gr1 : w.grownBy w1 (Value.slice (some ⟨ge, 0, none⟩) i ce).ownBlock) (at1 : (Value.slice (some ⟨ge, 0, none⟩) i ce).ownBlock = some g1 ∨ g1 = w.heap.size) (l1 : g1 < w1.heap.size)
    (O : Obj) (o2 : w2.ownsRow w0.heap.size 24 1 (.slice (some ⟨g2, 0, none⟩) (i + 1) c2) (i + 1) (ptrs bs ++ [.pointer (some ⟨eb, 0, none⟩)])) (gr2 : (w1.alloc O).grownBy w2 (Value.slice (some ⟨gk, 0, none⟩) i ck).ownBlock) (at2 : (Value.slice (some ⟨gk, 0, none⟩) i ck).ownBlock = some g2 ∨ g2 = w1.heap.size + 1) (l2 : g2 < w2.heap.size) :
    Two w0 w2 g1 c1 g2 c2 (i + 1) (bs ++ [eb]) := by
  have e : ptrs (bs ++ [eb]) = ptrs bs ++ [.pointer (some ⟨eb, 0, none⟩)] := by simp [ptrs]
  have hs1 := gr1.size
  have hs2 := gr2.size
  have hb1 := h.bel.grown gr1 h.bel.size (fun k hk => by cases hk; exact h.le1)
  have hb2 := (hb1.alloc hb1.size O).grown gr2 (by have := hb1.size; simp; omega) (fun k hk => by cases hk; exact h.le2)
  have hz := h.bel.size
  have lt1 := h.lt1
  have lt2 := h.lt2
  have le1 := h.le1
  have le2 := h.le2
  have hne := h.ne
  simp only [Value.ownBlock, Option.some.injEq] at at1 at2
  have hg12 : g1 ≠ gk := by omega
  have hne2 : g1 ≠ g2 := by simp at hs2; omega
  refine ⟨hb2, ?_, by rw [e]; exact o2, hne2, by simp at hs2; omega, l2, by omega, by simp at hs2; omega⟩
  rw [e]
  refine (o1.alloc O).kept gr2 (Or.inr ?_)
  simp [Value.ownBlock]; omega

theorem news1 (w : World) (x : Value) (N : Nat) (hN : w.heap.size = N) : ∀ j u, [x][j]? = some u → (w.alloc (.cells #[x] 24)).cell? ((⟨N, 0, none⟩ : Addr).add j) = some u := by
  subst hN
  intro j u hj
  match j, hj with
  | 0, hj => simp at hj; subst hj; simp [Addr.add]

theorem Two.alloc {w0 w : World} {ge ce gk ck i : Nat} {bs : List Nat} (h : Two w0 w ge ce gk ck i bs) (o : Obj) : Two w0 (w.alloc o) ge ce gk ck i bs :=
  ⟨h.bel.alloc h.bel.size o, h.oe.alloc o, h.ok.alloc o, h.ne, by have := h.lt1; simp; omega, by have := h.lt2; simp; omega, h.le1, h.le2⟩

theorem push5 (h : Array Obj) (a b c d e : Obj) : (((((h.push a).push b).push c).push d).push e)[h.size]? = some a ∧ (((((h.push a).push b).push c).push d).push e)[h.size + 1]? = some b ∧
    (((((h.push a).push b).push c).push d).push e)[h.size + 1 + 1]? = some c ∧ (((((h.push a).push b).push c).push d).push e)[h.size + 1 + 1 + 1]? = some d ∧ (((((h.push a).push b).push c).push d).push e)[h.size + 1 + 1 + 1 + 1]? = some e := by
  refine ⟨?_, ?_, ?_, ?_, ?_⟩
  · rw [Array.getElem?_push, if_neg (by simp only [Array.size_push]; omega), Array.getElem?_push, if_neg (by simp only [Array.size_push]; omega), Array.getElem?_push, if_neg (by simp only [Array.size_push]; omega), Array.getElem?_push, if_neg (by simp only [Array.size_push]; omega), Array.getElem?_push, if_pos rfl]
  · rw [Array.getElem?_push, if_neg (by simp only [Array.size_push]; omega), Array.getElem?_push, if_neg (by simp only [Array.size_push]; omega), Array.getElem?_push, if_neg (by simp only [Array.size_push]; omega), Array.getElem?_push, if_pos (by simp only [Array.size_push])]
  · rw [Array.getElem?_push, if_neg (by simp only [Array.size_push]; omega), Array.getElem?_push, if_neg (by simp only [Array.size_push]; omega), Array.getElem?_push, if_pos (by simp only [Array.size_push])]
  · rw [Array.getElem?_push, if_neg (by simp only [Array.size_push]; omega), Array.getElem?_push, if_pos (by simp only [Array.size_push])]
  · rw [Array.getElem?_push, if_pos (by simp only [Array.size_push])]

/-- What the law has laid when it asks. -/
structure Laid5 (w0 w : World) (qb ge ce gk ck i : Nat) (bs : List Nat) (L C : Int) (file r : ByteArray) : Prop where
  two : Two w0 w ge ce gk ck i bs
  q0 : w.cell? ⟨qb, 0, none⟩ = some (.int .i64 L)
  q1 : w.cell? ⟨qb, 1, none⟩ = some (.int .i64 C)
  f0 : w.cell? ⟨qb + 1, 0, none⟩ = some (.string file)
  p0 : w.cell? ⟨qb + 1 + 1, 0, none⟩ = some (.pointer (some ⟨qb + 1, 0, none⟩))
  c0 : w.cell? ⟨qb + 1 + 1 + 1, 0, none⟩ = some (.pointer (some ⟨qb + 1 + 1, 0, none⟩))
  c1 : w.cell? ⟨qb + 1 + 1 + 1, 1, none⟩ = some (.slice (some ⟨ge, 0, none⟩) i ce)
  fz : w.frozen? ⟨qb + 1 + 1 + 1, 1, none⟩ = false
  n0 : w.cell? ⟨qb + 1 + 1 + 1 + 1, 0, none⟩ = some (.int .i64 L)
  n1 : w.cell? ⟨qb + 1 + 1 + 1 + 1, 1, none⟩ = some (.int .i64 C)
  n2 : w.cell? ⟨qb + 1 + 1 + 1 + 1, 2, none⟩ = some (.string r)
  le : w0.heap.size ≤ qb
  ge_lt : ge < qb
  gk_lt : gk < qb

theorem Two.drewN {w0 w : World} {ge ce gk ck i : Nat} {bs : List Nat} (h : Two w0 w ge ce gk ck i bs) (q : Nat) : Two w0 (w.drewN q) ge ce gk ck i bs :=
  ⟨⟨h.bel.os, h.bel.tape, h.bel.output, h.bel.size, h.bel.block⟩, h.oe, h.ok, h.ne, h.lt1, h.lt2, h.le1, h.le2⟩

theorem Two.len {w0 w : World} {ge ce gk ck i : Nat} {bs : List Nat} (h : Two w0 w ge ce gk ck i bs) : bs.length = i := by
  have := h.oe.1
  simpa [ptrs] using this

theorem Laid5.drewN {w0 w : World} {qb ge ce gk ck i : Nat} {bs : List Nat} {L C : Int} {file r : ByteArray} (h : Laid5 w0 w qb ge ce gk ck i bs L C file r) (q : Nat) : Laid5 w0 (w.drewN q) qb ge ce gk ck i bs L C file r :=
  ⟨h.two.drewN q, h.q0, h.q1, h.f0, h.p0, h.c0, h.c1, h.fz, h.n0, h.n1, h.n2, h.le, h.ge_lt, h.gk_lt⟩

theorem _root_.Go.World.ownsRow.cellAt_ptr {w : World} {base n g c : Nat} {xs : List Value} (h : w.ownsRow base 24 1 (.slice (some ⟨g, 0, none⟩) n c) n xs) {j : Nat} (hj : j < n) {b : Nat} (hx : xs[j]? = some (.pointer (some ⟨b, 0, none⟩))) : w.cell? ⟨g, j, none⟩ = some (.pointer (some ⟨b, 0, none⟩)) := by
  obtain ⟨h1, h | ⟨g', cap, cur, hv, hg, hh, h2, h3, h4, h5⟩⟩ := h
  · simp at h
  · simp at hv
    obtain ⟨rfl, rfl⟩ := hv
    rw [cell_of_row _ _ _ _ _ _ hh, ← hx, ← h5, List.getElem?_take_of_lt (by omega)]
    simp

theorem Ybaf.neq24 (a : Addr) (w : World) : (binOp .neq 24 (.pointer (some a)) (.pointer (some a))).run Ybaf.prog w = .ok (.bool false) w := by
  obtain ⟨j, hj⟩ := Option.isSome_iff_exists.1 (show (Ybaf.prog.info? 28).isSome = true by kernel_rfl)
  exact Lib.run_neq_ptr_same w a Ybaf.underlying24 hj

theorem ret_bool {a b : Bool} (h : a = b) : Ending.returned (.bool a) = .returned (.bool b) := by rw [h]

theorem Laid5.mk' {w0 wr : World} {ge ce gk ck i : Nat} {bs : List Nat} (h : Two w0 wr ge ce gk ck i bs) (L C : Int) (file r : ByteArray) (F P : List Value) (R : List Value) :
    Laid5 w0 (((((wr.alloc (.cells #[.int .i64 L, .int .i64 C] 26)).alloc (.cells (.string file :: F).toArray 36)).alloc (.cells (.pointer (some ⟨wr.heap.size + 1, 0, none⟩) :: P).toArray 44)).alloc
      (.cells (.pointer (some ⟨wr.heap.size + 1 + 1, 0, none⟩) :: .slice (some ⟨ge, 0, none⟩) i ce :: R).toArray 49)).alloc (.cells #[.int .i64 L, .int .i64 C, .string r] 51)) wr.heap.size ge ce gk ck i bs L C file r := by
  have hp := push5 wr.heap (.cells #[.int .i64 L, .int .i64 C] 26) (.cells (.string file :: F).toArray 36) (.cells (.pointer (some ⟨wr.heap.size + 1, 0, none⟩) :: P).toArray 44)
      (.cells (.pointer (some ⟨wr.heap.size + 1 + 1, 0, none⟩) :: .slice (some ⟨ge, 0, none⟩) i ce :: R).toArray 49) (.cells #[.int .i64 L, .int .i64 C, .string r] 51)
  have t5 := ((((h.alloc (.cells #[.int .i64 L, .int .i64 C] 26)).alloc (.cells (.string file :: F).toArray 36)).alloc (.cells (.pointer (some ⟨wr.heap.size + 1, 0, none⟩) :: P).toArray 44)).alloc
      (.cells (.pointer (some ⟨wr.heap.size + 1 + 1, 0, none⟩) :: .slice (some ⟨ge, 0, none⟩) i ce :: R).toArray 49)).alloc (.cells #[.int .i64 L, .int .i64 C, .string r] 51)
  have e : (((((wr.alloc (.cells #[.int .i64 L, .int .i64 C] 26)).alloc (.cells (.string file :: F).toArray 36)).alloc (.cells (.pointer (some ⟨wr.heap.size + 1, 0, none⟩) :: P).toArray 44)).alloc
      (.cells (.pointer (some ⟨wr.heap.size + 1 + 1, 0, none⟩) :: .slice (some ⟨ge, 0, none⟩) i ce :: R).toArray 49)).alloc (.cells #[.int .i64 L, .int .i64 C, .string r] 51)).heap = (((((wr.heap.push (.cells #[.int .i64 L, .int .i64 C] 26)).push (.cells (.string file :: F).toArray 36)).push (.cells (.pointer (some ⟨wr.heap.size + 1, 0, none⟩) :: P).toArray 44)).push
      (.cells (.pointer (some ⟨wr.heap.size + 1 + 1, 0, none⟩) :: .slice (some ⟨ge, 0, none⟩) i ce :: R).toArray 49)).push (.cells #[.int .i64 L, .int .i64 C, .string r] 51)) := rfl
  rw [← e] at hp
  obtain ⟨b0, b1, b2, b3, b4⟩ := hp
  refine ⟨t5, ?_, ?_, ?_, ?_, ?_, ?_, ?_, ?_, ?_, ?_, h.bel.size, h.lt1, h.lt2⟩
  · rw [cell_of_row _ _ _ _ _ _ b0]; rfl
  · rw [cell_of_row _ _ _ _ _ _ b0]; rfl
  · rw [cell_of_row _ _ _ _ _ _ b1]; rfl
  · rw [cell_of_row _ _ _ _ _ _ b2]; rfl
  · rw [cell_of_row _ _ _ _ _ _ b3]; rfl
  · rw [cell_of_row _ _ _ _ _ _ b3]; rfl
  · simp only [World.frozen?, b3]; simp
  · rw [cell_of_row _ _ _ _ _ _ b4]; rfl
  · rw [cell_of_row _ _ _ _ _ _ b4]; rfl
  · rw [cell_of_row _ _ _ _ _ _ b4]; rfl

theorem ownsRow_of_block {w w' : World} {base e size n g c : Nat} {xs : List Value} (h : w.ownsRow base e size (.slice (some ⟨g, 0, none⟩) n c) n xs) (hb : w'.heap[g]? = w.heap[g]?) : w'.ownsRow base e size (.slice (some ⟨g, 0, none⟩) n c) n xs := by
  obtain ⟨h1, h | ⟨g', cap, cur, hv, hg, hh, r⟩⟩ := h
  · simp at h
  · simp at hv
    obtain ⟨rfl, rfl⟩ := hv
    exact ⟨h1, Or.inr ⟨g, c, cur, rfl, hg, hb.trans hh, r⟩⟩

/-- What lies in memory behind a report. -/
structure After (w0 w : World) (qb g cap gk ck i eb : Nat) (bs : List Nat) (L C : Int) (file r : ByteArray) : Prop where
  bel : Below w0.heap.size w0 w
  oe : w.ownsRow w0.heap.size 24 1 (.slice (some ⟨g, 0, none⟩) (i + 1) cap) (i + 1) (ptrs bs ++ [.pointer (some ⟨eb, 0, none⟩)])
  ok : w.ownsRow w0.heap.size 24 1 (.slice (some ⟨gk, 0, none⟩) i ck) i (ptrs bs)
  c1 : w.cell? ⟨qb + 1 + 1 + 1, 1, none⟩ = some (.slice (some ⟨g, 0, none⟩) (i + 1) cap)
  q0 : w.cell? ⟨qb, 0, none⟩ = some (.int .i64 L)
  q1 : w.cell? ⟨qb, 1, none⟩ = some (.int .i64 C)
  n0 : w.cell? ⟨qb + 1 + 1 + 1 + 1, 0, none⟩ = some (.int .i64 L)
  n1 : w.cell? ⟨qb + 1 + 1 + 1 + 1, 1, none⟩ = some (.int .i64 C)
  n2 : w.cell? ⟨qb + 1 + 1 + 1 + 1, 2, none⟩ = some (.string r)
  e0 : w.cell? ⟨eb, 0, none⟩ = some (.string file)
  e1 : w.cell? ⟨eb, 1, none⟩ = some (.int .i64 L)
  e2 : w.cell? ⟨eb, 2, none⟩ = some (.int .i64 C)

theorem After.drewN {w0 w : World} {qb g cap gk ck i eb : Nat} {bs : List Nat} {L C : Int} {file r : ByteArray} (h : After w0 w qb g cap gk ck i eb bs L C file r) (q : Nat) : After w0 (w.drewN q) qb g cap gk ck i eb bs L C file r :=
  ⟨⟨h.bel.os, h.bel.tape, h.bel.output, h.bel.size, h.bel.block⟩, h.oe, h.ok, h.c1, h.q0, h.q1, h.n0, h.n1, h.n2, h.e0, h.e1, h.e2⟩

theorem After.len {w0 w : World} {qb g cap gk ck i eb : Nat} {bs : List Nat} {L C : Int} {file r : ByteArray} (h : After w0 w qb g cap gk ck i eb bs L C file r) : bs.length = i := by
  have := h.ok.1
  simpa [ptrs] using this

theorem After.mk' {w0 W w : World} {qb ge ce gk ck i g cap eb : Nat} {bs : List Nat} {L C : Int} {file r : ByteArray} (h : Laid5 w0 W qb ge ce gk ck i bs L C file r) (hl : Logged W w (qb + 1 + 1 + 1) i w0.heap.size (.slice (some ⟨ge, 0, none⟩) i ce) (ptrs bs) file L C g cap eb) :
    After w0 w qb g cap gk ck i eb bs L C file r := by
  have l1 := h.ge_lt
  have l2 := h.gk_lt
  have hz := h.le
  have hb := h.two.bel
  have hne := h.two.ne
  have hle := h.two.le1
  refine ⟨⟨hl.os.trans hb.os, hl.tape.trans hb.tape, hl.output.trans hb.output, Nat.le_trans hb.size hl.size, fun k hk => (hl.block k (Nat.lt_of_lt_of_le hk hb.size) (by omega) (by simp [Value.ownBlock]; omega)).trans (hb.block k hk)⟩, hl.own,
    ownsRow_of_block h.two.ok (hl.block gk h.two.lt2 (by omega) (by simp [Value.ownBlock]; omega)), hl.c1, ?_, ?_, ?_, ?_, ?_, hl.e0, hl.e1, hl.e2⟩
  · exact hl.keeps h.q0 (by omega) (by simp [Value.ownBlock]; omega)
  · exact hl.keeps h.q1 (by omega) (by simp [Value.ownBlock]; omega)
  · exact hl.keeps h.n0 (by omega) (by simp [Value.ownBlock]; omega)
  · exact hl.keeps h.n1 (by omega) (by simp [Value.ownBlock]; omega)
  · exact hl.keeps h.n2 (by omega) (by simp [Value.ownBlock]; omega)

set_option maxHeartbeats 1000000 in
set_option maxRecDepth 100000 in
theorem reports_walk (nm file : ByteArray) (p pr L C : Int) (u : Bool) (m1 m2 : Nat) (w : World) (hn : nm.size ≤ 1024) (hf : file.size ≤ 1024) (p0 : 0 ≤ p) (p1 : p ≤ 255) (r0 : 0 ≤ pr) (r1 : pr ≤ 255)
    (g0 : w.cell? ⟨0, 0, none⟩ = some (.map (some m1))) (g1 : w.cell? ⟨1, 0, none⟩ = some (.map (some m2)))
    (hl1 : ∀ wx, Below w.heap.size w wx → ∀ s : ByteArray, s.size ≤ maxLen → (Instr.lookup 78 (.map (some m1)) (.string s) false).run Ybaf.prog wx = .ok (.bool (five.any fun x => s.toList == x)) wx)
    (hl2 : ∀ wx, Below w.heap.size w wx → ∀ s : ByteArray, s.size ≤ maxLen → (Instr.lookup 78 (.map (some m2)) (.string s) false).run Ybaf.prog wx = .ok (.bool (rest.any fun x => s.toList == x)) wx) :
    Calls Ybaf.prog 3 #[.string nm, .int .u8 p, .bool u, .int .i64 L, .int .i64 C, .string file, .int .u8 pr] w fun e w' => e = .returned (.bool true) ∧ Below w.heap.size w w' := by
  obtain ⟨i0, hi0, hz0, hz1, hz2⟩ := info_parts Ybaf.info24
  obtain ⟨K, hK⟩ : ∃ K : Nat, pr % 9 = (K : Int) ∧ K ≤ 8 := ⟨(pr % 9).toNat, by omega, by omega⟩
  obtain ⟨hK, hK8⟩ := hK
  have HL1 : Hid (∀ wx, Below w.heap.size w wx → ∀ s : ByteArray, s.size ≤ maxLen → (Instr.lookup 78 (.map (some m1)) (.string s) false).run Ybaf.prog wx = .ok (.bool (five.any fun x => s.toList == x)) wx) := hl1
  have HL2 : Hid (∀ wx, Below w.heap.size w wx → ∀ s : ByteArray, s.size ≤ maxLen → (Instr.lookup 78 (.map (some m2)) (.string s) false).run Ybaf.prog wx = .ok (.bool (rest.any fun x => s.toList == x)) wx) := hl2
  clear hl1 hl2
  have hn' : (nm.size : Int) ≤ 1024 := by omega
  have hf' : (file.size : Int) ≤ 1024 := by omega
  go_enter Ybaf.func3, Ybaf.ntmps3
  go_wp2_with (go_at_call 5; refine (apick_any nm p u _ hn p0 p1).mono ?_; rintro e w1 ⟨r, rfl, hb1, hr⟩)
  have ht := Two.made hb1
  have HK : Hid (pr % 9 = (K : Int)) := hK
  clear hK hn' hf'
  go_loopg [16, 17, 18] K (fun q s16 s17 s18 wx => ∃ i ge ce gk ck bs, i + q = K ∧ s18 = .int .i64 (i : Int) ∧ s16 = .slice (some ⟨ge, 0, none⟩) i ce ∧ s17 = .slice (some ⟨gk, 0, none⟩) i ck ∧ Two w wx ge ce gk ck i bs)
  case atStart => exact ⟨0, _, _, _, _, [], by omega, rfl, rfl, rfl, ht⟩
  case round =>
    clear ht
    obtain ⟨i, ge, ce, gk', ck, bs, hi, rfl, rfl, rfl, ht⟩ := hrel
    by_cases hlt : i < K
    · have ht1 := ht.alloc (.cells #[.string ⟨#[]⟩, .int .i64 0, .int .i64 0, .string ⟨#[112]⟩] 28)
      have ht2 := ht1.alloc (.cells #[.pointer (some ⟨wr.heap.size, 0, none⟩)] 24)
      have hz2' := ht2.bel.size
      go_upto_region 12 with (at_builtin; refine wpList_append_lies _ rfl (.tmp 51) (.tmp 53) 23 rfl w.heap.size 24 i0 (.pointer none) 1 8 Ybaf.underlying23 hi0 hz0 hz1 hz2 rfl (by omega) (.slice (some ⟨ge, 0, none⟩) i ce) i (ptrs bs) rfl ht2.oe ⟨wr.heap.size + 1, 0, none⟩ 1 1 [.pointer (some ⟨wr.heap.size, 0, none⟩)] rfl rfl (news1 _ _ _ (by simp)) (by simp [Value.oneCell']) (by omega) (by unfold maxLen; omega) (by omega) hz2' (wr.heap.size + 1 + 1) (by simp) ?_; intro g1 c1 v1 o1 gr1 at1 lt1)
      have ok1 := (ht2.ok.kept gr1 (Or.inr (fun e => ht2.ne (Option.some.inj e).symm))).alloc (.cells #[.pointer (some ⟨wr.heap.size, 0, none⟩)] 24)
      have hv1 : w.heap.size ≤ (v1.alloc (.cells #[.pointer (some ⟨wr.heap.size, 0, none⟩)] 24)).heap.size := by have := gr1.size; simp at this ⊢; simp at hz2'; omega
      go_wp2_with (at_builtin; go_must (refine wpList_append_lies _ rfl (.tmp 55) (.tmp 57) 23 rfl w.heap.size 24 i0 (.pointer none) 1 8 Ybaf.underlying23 hi0 hz0 hz1 hz2 rfl (by omega) (.slice (some ⟨gk', 0, none⟩) i ck) i (ptrs bs) rfl ok1 ⟨v1.heap.size, 0, none⟩ 1 1 [.pointer (some ⟨wr.heap.size, 0, none⟩)] rfl rfl (news1 _ _ _ rfl) (by simp [Value.oneCell']) (by omega) (by unfold maxLen; omega) (by omega) hv1 (v1.heap.size + 1) (by simp) ?_); intro g2 c2 v2 o2 gr2 at2 lt2)
      have hts := Two.step ht2 o1 gr1 (by simpa using at1) lt1 _ o2 gr2 at2 lt2
      clear o1 o2 gr1 gr2 at1 at2 lt1 lt2 ht ht1 ht2 hz2'
      go_roundg (gk - 1)
      case measure => omega
      case rel => exact ⟨i + 1, g1, c1, g2, c2, _, by omega, by go_num, rfl, rfl, hts⟩
    · have hiK : i = K := by omega
      subst hiK
      clear hi hlt
      go_upto_region 16 with fail
      have hL := Laid5.mk' ht L C file r [.pointer none, .slice none 0 0, .slice none 0 0] [.map none, .map none, .pointer none, .map none, .map none, .map none] [.bool false, .map none, .map none, .bool false, .slice none 0 0]
      generalize (((((wr.alloc (.cells #[.int .i64 L, .int .i64 C] 26)).alloc (.cells #[.string file, .pointer none, .slice none 0 0, .slice none 0 0] 36)).alloc (.cells #[.pointer (some ⟨wr.heap.size + 1, 0, none⟩), .map none, .map none, .pointer none, .map none, .map none, .map none] 44)).alloc
        (.cells #[.pointer (some ⟨wr.heap.size + 1 + 1, 0, none⟩), .slice (some ⟨ge, 0, none⟩) i ce, .bool false, .map none, .map none, .bool false, .slice none 0 0] 49)).alloc (.cells #[.int .i64 L, .int .i64 C, .string r] 51)) = W at hL ⊢
      generalize wr.heap.size = qb at hL ⊢
      clear ht hb1
      have hbW := hL.two.bel
      have hq : Asks W (qb + 1 + 1 + 1) (qb + 1 + 1) (qb + 1) (qb + 1 + 1 + 1 + 1) m1 m2 i ce w.heap.size (some ⟨ge, 0, none⟩) (ptrs bs) r file L C (five.any fun x => r.toList == x) (rest.any fun x => r.toList == x) := by
        have lg0 := World.block_lt_of_cell? w _ g0
        have lg1 := World.block_lt_of_cell? w _ g1
        have l1 := hL.ge_lt
        have hd : ∀ q, Below w.heap.size w (W.drewN q) := fun q => ⟨hbW.os, hbW.tape, hbW.output, hbW.size, hbW.block⟩
        exact ⟨(hbW.cell lg0).trans g0, (hbW.cell lg1).trans g1, fun q => HL1.out _ (hd q) r (by unfold maxLen; omega), fun q => HL2.out _ (hd q) r (by unfold maxLen; omega), hL.n0, hL.n1, hL.n2, hL.c0, hL.c1, hL.fz, hL.p0, hL.f0, hL.two.oe, hbW.size,
          by simp [Value.ownBlock]; omega, by simp [Value.ownBlock]; omega, by simp [Value.ownBlock]; omega, by simp [Value.ownBlock]; omega, by omega⟩
      have hisB : isB r = ((five.any fun x => r.toList == x) || (rest.any fun x => r.toList == x)) := by simp [isB]
      cases hB : isB r
      · rw [hB] at hisB
        have h12 : (five.any fun x => r.toList == x) = false ∧ (rest.any fun x => r.toList == x) = false := by simpa using hisB.symm
        rw [h12.1, h12.2] at hq
        clear hisB h12
        go_wp2_with fail
        refine (redecl_no hq).mono ?_
        rintro e w2 ⟨rfl, q2, rfl⟩
        go_wp2_with (go_at_call 7; refine (ais_any r _).mono ?_; rintro e w' ⟨rfl, rfl⟩)
        have n0 := hL.n0
        have n1 := hL.n1
        have n2 := hL.n2
        have q0 := hL.q0
        have q1 := hL.q1
        go_quiet (fail)
        have hL2 := hL.drewN (q2 + nq)
        rw [← World.drewN_drewN] at hL2
        generalize (W.drewN q2).drewN nq = W2 at hL2 ⊢
        clear n0 n1 n2 q0 q1 hq hL hbW
        have c1 := hL2.c1
        go_wp2_with fail
        go_loopg [25] i (fun q s25 wx => ∃ j qq : Nat, j + q = i ∧ s25 = .int .i64 (j : Int) ∧ wx = W2.drewN qq)
        case atStart => exact ⟨0, 0, by omega, rfl, rfl⟩
        case round =>
          obtain ⟨j, qq, hj, rfl, rfl⟩ := hrel
          by_cases hlt : j < i
          · have hjlen : j < bs.length := by rw [hL2.two.len]; exact hlt
            have x1 := hL2.two.oe.cellAt_ptr hlt (b := bs[j]) (by simp [ptrs, hjlen])
            have x2 := hL2.two.ok.cellAt_ptr hlt (b := bs[j]) (by simp [ptrs, hjlen])
            have hj0 : (0 : Int) ≤ (j : Int) := by omega
            have hj1 : (j : Int) < (i : Int) := by omega
            have hjd : decide ((i : Int) ≤ (j : Int)) = false := decide_eq_false (by omega)
            have q24 := Ybaf.neq24
            generalize bs[j] = bj at x1 x2
            go_wp2_with fail
            go_quiet (fail)
            go_wp2_with fail
            go_roundg (gk - 1)
            case measure => omega
            case rel => exact ⟨j + 1, _, by omega, by go_num, rfl⟩
          · have hji : j = i := by omega
            subst hji
            clear hj hlt
            go_wp2_with fail
            go_ret
            exact ⟨ret_bool (by simp), (hL2.drewN qq).two.bel⟩
      · rw [hB] at hisB
        go_wp2_with fail
        refine (redecl_yes hq hK8 hisB.symm).mono ?_
        rintro e w2 ⟨rfl, g, cap', eb, hlog⟩
        have hA := After.mk' hL hlog
        clear hlog hq hL hbW hisB
        go_wp2_with (go_at_call 7; refine (ais_any r _).mono ?_; rintro e w' ⟨rfl, rfl⟩)
        have n0 := hA.n0
        have n1 := hA.n1
        have n2 := hA.n2
        have q0 := hA.q0
        have q1 := hA.q1
        go_quiet (fail)
        have hA2 := hA.drewN nq
        generalize w2.drewN nq = W2 at hA2 ⊢
        clear n0 n1 n2 q0 q1 hA
        have c1 := hA2.c1
        go_wp2_with fail
        go_loopg [25] i (fun q s25 wx => ∃ j qq : Nat, j + q = i ∧ s25 = .int .i64 (j : Int) ∧ wx = W2.drewN qq)
        case atStart => exact ⟨0, 0, by omega, rfl, rfl⟩
        case round =>
          obtain ⟨j, qq, hj, rfl, rfl⟩ := hrel
          by_cases hlt : j < i
          · have hjlen : j < bs.length := by rw [hA2.len]; exact hlt
            have x1 := hA2.oe.cellAt_ptr (j := j) (by omega) (b := bs[j]) (by rw [List.getElem?_append_left (by simp [ptrs, hjlen])]; simp [ptrs, hjlen])
            have x2 := hA2.ok.cellAt_ptr hlt (b := bs[j]) (by simp [ptrs, hjlen])
            have hj0 : (0 : Int) ≤ (j : Int) := by omega
            have hj1 : (j : Int) < (i : Int) := by omega
            have hj2 : (j : Int) < (i : Int) + 1 := by omega
            have hjd : decide ((i : Int) + 1 ≤ (j : Int)) = false := decide_eq_false (by omega)
            have q24 := Ybaf.neq24
            generalize bs[j] = bj at x1 x2
            go_wp2_with fail
            go_quiet (fail)
            go_wp2_with fail
            go_roundg (gk - 1)
            case measure => omega
            case rel => exact ⟨j + 1, _, by omega, by go_num, rfl⟩
          · have hji : j = i := by omega
            subst hji
            clear hj hlt
            have x1 := hA2.oe.cellAt_ptr (j := j) (by omega) (b := eb) (by rw [List.getElem?_append_right (by simp [ptrs, hA2.len])]; simp [ptrs, hA2.len])
            have e0 := hA2.e0
            have e1 := hA2.e1
            have e2 := hA2.e2
            have q0 := hA2.q0
            have q1 := hA2.q1
            have hj0 : (0 : Int) ≤ (j : Int) := by omega
            have hj2 : (j : Int) < (j : Int) + 1 := by omega
            go_wp2_with fail
            go_quiet (fail)
            go_wp2_with fail
            go_ret
            exact ⟨ret_bool (by simp), ((hA2.drewN _).drewN _).bel⟩

theorem reports_big (nm file : ByteArray) (p pr L C : Int) (u : Bool) (w : World) (h : 1024 < nm.size ∨ 1024 < file.size) :
    Calls Ybaf.prog 3 #[.string nm, .int .u8 p, .bool u, .int .i64 L, .int .i64 C, .string file, .int .u8 pr] w fun e w' => e = .returned (.bool true) ∧ Below w.heap.size w w' := by
  by_cases h1 : (1024 : Int) < (nm.size : Int)
  · go_enter Ybaf.func3, Ybaf.ntmps3
    go_wp2_with fail
    go_ret
    exact ⟨rfl, Below.refl _ _⟩
  · have h2 : (1024 : Int) < (file.size : Int) := by omega
    go_enter Ybaf.func3, Ybaf.ntmps3
    go_wp2_with fail
    go_ret
    exact ⟨rfl, Below.refl _ _⟩
end Go.Proofs.YbulkaobwFmt
