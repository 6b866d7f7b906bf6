import Derived.Test.YbulkaobwFmtReport
import Derived.Deep.OwnRows
namespace Go.Proofs.YbulkaobwFmt
open Go.RowKit
set_option linter.unusedVariables false
set_option linter.unusedSimpArgs false

theorem Ybaf.info26 : (Ybaf.prog.info? 26).map (fun i => (i.zero, i.size, i.bytes)) = some (some (.agg #[.int .i64 0, .int .i64 0]), 2, 16) := by kernel_rfl

/-- A slice of integers that came in. -/
def RowK (k : IntKind) (w : World) (a : Option Addr) (len : Nat) (Z : Nat → Int) : Prop :=
  ∀ i, i < len → ∃ b off, a = some ⟨b, off, none⟩ ∧ b < w.heap.size ∧ w.cell? ⟨b, off + i, none⟩ = some (.int k (Z i))

theorem RowK.at {k : IntKind} {w w' : World} {a : Option Addr} {len : Nat} {Z : Nat → Int} (h : RowK k w a len Z) (hb : Below w.heap.size w w') {i : Nat} (hi : i < len) : ∃ b off, a = some ⟨b, off, none⟩ ∧ w'.cell? ⟨b, off + i, none⟩ = some (.int k (Z i)) := by
  obtain ⟨b, off, e, hl, hc⟩ := h i hi
  exact ⟨b, off, e, (hb.cell hl).trans hc⟩

/-- One declaration: its name's block, its text's and its own. -/
structure Entry (w : World) (b : Nat) (L C : Int) : Prop where
  n0 : w.cell? ⟨b, 0, none⟩ = some (.int .i64 L)
  n1 : w.cell? ⟨b, 1, none⟩ = some (.int .i64 C)
  s0 : w.cell? ⟨b + 1, 0, none⟩ = some (.pointer (some ⟨b, 0, none⟩))
  nm : Named w (b + 2)
  d1 : w.cell? ⟨b + 2, 1, none⟩ = some (.pointer (some ⟨b + 1, 0, none⟩))

theorem Entry.kept {w w' : World} {b : Nat} {L C : Int} (h : Entry w b L C) {row : Option Nat} (hg : w.grownBy w' row) (h0 : some b ≠ row) (h1 : some (b + 1) ≠ row) (h2 : some (b + 2) ≠ row) : Entry w' b L C :=
  ⟨(hg.cell_far ⟨b, 0, none⟩ (World.block_lt_of_cell? w _ h.n0) h0).trans h.n0, (hg.cell_far ⟨b, 1, none⟩ (World.block_lt_of_cell? w _ h.n1) h0).trans h.n1, (hg.cell_far ⟨b + 1, 0, none⟩ (World.block_lt_of_cell? w _ h.s0) h1).trans h.s0,
    h.nm.kept hg h2, (hg.cell_far ⟨b + 2, 1, none⟩ (World.block_lt_of_cell? w _ h.d1) h2).trans h.d1⟩

/-- The declarations, the first i of n made. -/
structure Built (w wx : World) (n i : Nat) (L C : Nat → Int) : Prop where
  bel : Below w.heap.size w wx
  size : wx.heap.size = w.heap.size + 2 + 3 * i
  rd : ∃ F, wx.rowIs w.heap.size 59 n F ∧ ∀ j, j < i → F j = .pointer (some ⟨w.heap.size + 2 + 3 * j + 2, 0, none⟩)
  rq : ∃ F, wx.rowIs (w.heap.size + 1) 26 (n * 2) F ∧ ∀ j, j < i → F (j * 2) = .int .i64 (L j) ∧ F (j * 2 + 1) = .int .i64 (C j)
  ent : ∀ j, j < i → Entry wx (w.heap.size + 2 + 3 * j) (L j) (C j)

theorem Built.made (w : World) (n : Nat) (L C : Nat → Int) (z : Array Value) (c : Array Value) (hc : c.size = n * 2) : Built w ((w.alloc (.cells (madeCells #[.pointer none] n) 59)).alloc (.cells c 26)) n 0 L C := by
  refine ⟨((Below.refl _ _).alloc (Nat.le_refl _) _).alloc (by simp) _, by simp, ⟨_, (World.rowIs_made w (.pointer none) n 59).alloc _, fun j hj => by omega⟩, ⟨fun i => (c[i]?).getD undef, ?_, fun j hj => by omega⟩, fun j hj => by omega⟩
  have := World.rowIs_alloc (w.alloc (.cells (madeCells #[.pointer none] n) 59)) c 26 (fun i => (c[i]?).getD undef) (fun i hi => by simp [hi])
  rw [hc] at this
  simpa using this

theorem make58 (n : Nat) (hn : n ≤ 256) (w : World) : (Instr.makeSlice 58 (.int .i64 (n : Int)) (.int .i64 (n : Int))).run Ybaf.prog w = .ok (.slice (some ⟨w.heap.size, 0, none⟩) n n) (w.alloc (.cells (madeCells #[.int .i64 0, .int .i64 0] (n * 2)) 26)) := by
  obtain ⟨i, hi, hz0, hz1, hz2⟩ := info_parts Ybaf.info26
  have hr := run_make (P := Ybaf.prog) w 58 26 i (.agg #[.int .i64 0, .int .i64 0]) Ybaf.underlying58 hi hz0 .i64 .i64 n n (by omega) (Int.le_refl _) (by rw [hz2]; omega) (by omega)
  simp only [Int.toNat_natCast, hz1] at hr
  exact hr

/-- The position stored. -/
structure Posed (w wx : World) (n i : Nat) (L C : Nat → Int) : Prop where
  b : Built w wx n i L C
  rq : ∃ F, wx.rowIs (w.heap.size + 1) 26 (n * 2) F ∧ ∀ j, j < i + 1 → F (j * 2) = .int .i64 (L j) ∧ F (j * 2 + 1) = .int .i64 (C j)

theorem Built.pos {w wx : World} {n i : Nat} {L C : Nat → Int} (h : Built w wx n i L C) : Posed w ((wx.setCell ⟨w.heap.size + 1, i * 2, none⟩ (.int .i64 (L i))).setCell ⟨w.heap.size + 1, i * 2 + 1, none⟩ (.int .i64 (C i))) n i L C := by
  obtain ⟨F1, hrd, hF1⟩ := h.rd
  obtain ⟨F2, hrq, hF2⟩ := h.rq
  have hg : wx.grownBy ((wx.setCell ⟨w.heap.size + 1, i * 2, none⟩ (.int .i64 (L i))).setCell ⟨w.heap.size + 1, i * 2 + 1, none⟩ (.int .i64 (C i))) (some (w.heap.size + 1)) := (grownBy_setCell wx ⟨w.heap.size + 1, i * 2, none⟩ _).trans (grownBy_setCell _ ⟨w.heap.size + 1, i * 2 + 1, none⟩ _)
  have hr := (hrq.set (i * 2) (.int .i64 (L i))).set (i * 2 + 1) (.int .i64 (C i))
  have hrq2 : ∃ F, ((wx.setCell ⟨w.heap.size + 1, i * 2, none⟩ (.int .i64 (L i))).setCell ⟨w.heap.size + 1, i * 2 + 1, none⟩ (.int .i64 (C i))).rowIs (w.heap.size + 1) 26 (n * 2) F ∧ ∀ j, j < i + 1 → F (j * 2) = .int .i64 (L j) ∧ F (j * 2 + 1) = .int .i64 (C j) := by
    refine ⟨_, hr, fun j hj => ?_⟩
    by_cases e : j = i
    · subst e
      simp
    · have := hF2 j (by omega)
      rw [if_neg (by omega), if_neg (by omega), if_neg (by omega), if_neg (by omega)]
      exact this
  refine ⟨⟨h.bel.grown hg h.bel.size (fun k hk => by cases hk; omega), by rw [← h.size]; simp [World.setCell], ⟨F1, (hrd.setOther (by simp) _).setOther (by simp) _, hF1⟩, ?_, ?_⟩, hrq2⟩
  · obtain ⟨F, hF, e⟩ := hrq2
    exact ⟨F, hF, fun j hj => e j (by omega)⟩
  · intro j hj
    exact (h.ent j hj).kept hg (by simp; omega) (by simp; omega) (by simp; omega)

theorem blk3 (w : World) (a b c : Obj) : (((w.alloc a).alloc b).alloc c).heap[w.heap.size]? = some a ∧ (((w.alloc a).alloc b).alloc c).heap[w.heap.size + 1]? = some b ∧ (((w.alloc a).alloc b).alloc c).heap[w.heap.size + 2]? = some c := by
  have e : (((w.alloc a).alloc b).alloc c).heap = ((w.heap.push a).push b).push c := rfl
  rw [e]
  refine ⟨?_, ?_, ?_⟩
  · rw [Array.getElem?_push, if_neg (by simp only [Array.size_push]; omega), Array.getElem?_push, if_neg (by simp only [Array.size_push]; omega), Array.getElem?_push, if_pos rfl]
  · rw [Array.getElem?_push, if_neg (by simp only [Array.size_push]; omega), Array.getElem?_push, if_pos (by simp only [Array.size_push])]
  · rw [Array.getElem?_push, if_pos (by simp only [Array.size_push])]

theorem Posed.next {w wx : World} {n i : Nat} {L C : Nat → Int} (h : Posed w wx n i L C) (c1 : Array Value) (c2 c3 : List Value) (b0 b1 b2 : Nat) (e0 : b0 = w.heap.size + 2 + 3 * i) (e1 : b1 = b0 + 1) (e2 : b2 = b0 + 2) :
    Built w ((((wx.alloc (.cells #[.int .i64 (L i), .int .i64 (C i), .string ⟨#[]⟩] 51)).alloc (.cells (.pointer (some ⟨b0, 0, none⟩) :: c2).toArray 65)).alloc (.cells (.string ⟨#[84]⟩ :: .pointer (some ⟨b1, 0, none⟩) :: c3).toArray 71)).setCell ⟨w.heap.size, i, none⟩ (.pointer (some ⟨b2, 0, none⟩))) n (i + 1) L C := by
  subst e2
  subst e1
  have hz := h.b.size
  obtain ⟨F1, hrd, hF1⟩ := h.b.rd
  obtain ⟨F2, hrq, hF2⟩ := h.rq
  obtain ⟨k0, k1, k2⟩ := blk3 wx (.cells #[.int .i64 (L i), .int .i64 (C i), .string ⟨#[]⟩] 51) (.cells (.pointer (some ⟨b0, 0, none⟩) :: c2).toArray 65) (.cells (.string ⟨#[84]⟩ :: .pointer (some ⟨b0 + 1, 0, none⟩) :: c3).toArray 71)
  have hr3 := ((hrd.alloc (.cells #[.int .i64 (L i), .int .i64 (C i), .string ⟨#[]⟩] 51)).alloc (.cells (.pointer (some ⟨b0, 0, none⟩) :: c2).toArray 65)).alloc (.cells (.string ⟨#[84]⟩ :: .pointer (some ⟨b0 + 1, 0, none⟩) :: c3).toArray 71)
  have hq3 := ((hrq.alloc (.cells #[.int .i64 (L i), .int .i64 (C i), .string ⟨#[]⟩] 51)).alloc (.cells (.pointer (some ⟨b0, 0, none⟩) :: c2).toArray 65)).alloc (.cells (.string ⟨#[84]⟩ :: .pointer (some ⟨b0 + 1, 0, none⟩) :: c3).toArray 71)
  have hg : wx.grownBy (((wx.alloc (.cells #[.int .i64 (L i), .int .i64 (C i), .string ⟨#[]⟩] 51)).alloc (.cells (.pointer (some ⟨b0, 0, none⟩) :: c2).toArray 65)).alloc (.cells (.string ⟨#[84]⟩ :: .pointer (some ⟨b0 + 1, 0, none⟩) :: c3).toArray 71)) none :=
    ((World.grownBy_alloc _ _ _).trans (World.grownBy_alloc _ _ _)).trans (World.grownBy_alloc _ _ _)
  have hs3 : (((wx.alloc (.cells #[.int .i64 (L i), .int .i64 (C i), .string ⟨#[]⟩] 51)).alloc (.cells (.pointer (some ⟨b0, 0, none⟩) :: c2).toArray 65)).alloc (.cells (.string ⟨#[84]⟩ :: .pointer (some ⟨b0 + 1, 0, none⟩) :: c3).toArray 71)).heap.size = wx.heap.size + 3 := by simp
  generalize (((wx.alloc (.cells #[.int .i64 (L i), .int .i64 (C i), .string ⟨#[]⟩] 51)).alloc (.cells (.pointer (some ⟨b0, 0, none⟩) :: c2).toArray 65)).alloc (.cells (.string ⟨#[84]⟩ :: .pointer (some ⟨b0 + 1, 0, none⟩) :: c3).toArray 71)) = W3 at k0 k1 k2 hr3 hq3 hg hs3 ⊢
  have hgs := grownBy_setCell W3 ⟨w.heap.size, i, none⟩ (.pointer (some ⟨b0 + 2, 0, none⟩))
  have eb : wx.heap.size = b0 := by omega
  rw [eb] at k0 k1 k2
  have hE : Entry W3 b0 (L i) (C i) := by
    refine ⟨?_, ?_, ?_, ⟨⟨_, _, k2⟩, ?_⟩, ?_⟩
    · rw [cell_of_row _ _ _ _ _ _ k0]; rfl
    · rw [cell_of_row _ _ _ _ _ _ k0]; rfl
    · rw [cell_of_row _ _ _ _ _ _ k1]; rfl
    · rw [cell_of_row _ _ _ _ _ _ k2]; rfl
    · rw [cell_of_row _ _ _ _ _ _ k2]; rfl
  refine ⟨(h.b.bel.grown hg h.b.bel.size (fun k hk => by cases hk)).grown hgs (by have := h.b.bel.size; omega) (fun k hk => by cases hk; exact Nat.le_refl _), ?_, ⟨_, hr3.set i _, ?_⟩, ⟨F2, hq3.setOther (by simp) _, hF2⟩, ?_⟩
  · have : (W3.setCell ⟨w.heap.size, i, none⟩ (.pointer (some ⟨b0 + 2, 0, none⟩))).heap.size = W3.heap.size := by simp [World.setCell]
    omega
  · intro j hj
    by_cases e : j = i
    · subst e
      rw [if_pos rfl, e0]
    · rw [if_neg e]; exact hF1 j (by omega)
  · intro j hj
    by_cases e : j = i
    · subst e
      rw [← e0]
      exact hE.kept hgs (by simp; omega) (by simp; omega) (by simp; omega)
    · exact ((h.b.ent j (by omega)).kept hg (by simp) (by simp) (by simp)).kept hgs (by simp; omega) (by simp; omega) (by simp; omega)

/-- line and column of declaration i. -/
def lineOf (l : Nat) (Z : Nat → Int) (i : Nat) : Int := if i < l then Z i else (i : Int) + 1
def colOf (l : Nat) (Z : Nat → Int) (i : Nat) : Int := if i < l then Z i else (i : Int)

/-- The declarations, all made. -/
structure Env (w0 w1 : World) (n db qb : Nat) (D S N : Nat → Nat) (L C : Nat → Int) : Prop where
  bel : Below w0.heap.size w0 w1
  dc : ∀ j, j < n → w1.cell? ⟨db, j, none⟩ = some (.pointer (some ⟨D j, 0, none⟩))
  q0 : ∀ j, j < n → w1.cell? ⟨qb, j * 2, none⟩ = some (.int .i64 (L j))
  q1 : ∀ j, j < n → w1.cell? ⟨qb, j * 2 + 1, none⟩ = some (.int .i64 (C j))
  nm : ∀ j, j < n → Named w1 (D j)
  d1 : ∀ j, j < n → w1.cell? ⟨D j, 1, none⟩ = some (.pointer (some ⟨S j, 0, none⟩))
  s0 : ∀ j, j < n → w1.cell? ⟨S j, 0, none⟩ = some (.pointer (some ⟨N j, 0, none⟩))
  n0 : ∀ j, j < n → w1.cell? ⟨N j, 0, none⟩ = some (.int .i64 (L j))
  n1 : ∀ j, j < n → w1.cell? ⟨N j, 1, none⟩ = some (.int .i64 (C j))
  inj : ∀ i j, i < n → j < n → D i = D j → i = j

theorem Built.env {w wx : World} {n : Nat} {L C : Nat → Int} (h : Built w wx n n L C) : Env w wx n w.heap.size (w.heap.size + 1) (fun j => w.heap.size + 2 + 3 * j + 2) (fun j => w.heap.size + 2 + 3 * j + 1) (fun j => w.heap.size + 2 + 3 * j) L C := by
  obtain ⟨F1, hrd, hF1⟩ := h.rd
  obtain ⟨F2, hrq, hF2⟩ := h.rq
  refine ⟨h.bel, fun j hj => by rw [hrd.cell hj, hF1 j hj], fun j hj => by rw [hrq.cell (by omega), (hF2 j hj).1], fun j hj => by rw [hrq.cell (by omega), (hF2 j hj).2], fun j hj => (h.ent j hj).nm, fun j hj => (h.ent j hj).d1, fun j hj => (h.ent j hj).s0, fun j hj => (h.ent j hj).n0, fun j hj => (h.ent j hj).n1, fun i j _ _ e => by have e2 : w.heap.size + 2 + 3 * i + 2 = w.heap.size + 2 + 3 * j + 2 := e; omega⟩

theorem Env.below {w0 w1 w2 : World} {n db qb : Nat} {D S N : Nat → Nat} {L C : Nat → Int} (h : Env w0 w1 n db qb D S N L C) (hb : Below w1.heap.size w1 w2) : Env w0 w2 n db qb D S N L C := by
  have hc : ∀ {b j : Nat} {v : Value}, w1.cell? ⟨b, j, none⟩ = some v → w2.cell? ⟨b, j, none⟩ = some v := fun {b j v} hc => (hb.cell (p := ⟨b, j, none⟩) (World.block_lt_of_cell? w1 _ hc)).trans hc
  exact ⟨h.bel.trans ⟨hb.os, hb.tape, hb.output, hb.size, fun k hk => hb.block k (Nat.lt_of_lt_of_le hk h.bel.size)⟩, fun j hj => hc (h.dc j hj), fun j hj => hc (h.q0 j hj), fun j hj => hc (h.q1 j hj), fun j hj => (h.nm j hj).below hb (h.nm j hj).cells.lt, fun j hj => hc (h.d1 j hj), fun j hj => hc (h.s0 j hj), fun j hj => hc (h.n0 j hj), fun j hj => hc (h.n1 j hj), h.inj⟩

/-- The path, the first i of M types made. -/
structure Pathed (w1 wx : World) (M i : Nat) (D J : Nat → Nat) : Prop where
  bel : Below w1.heap.size w1 wx
  size : wx.heap.size = w1.heap.size + 1 + i
  row : ∃ F, wx.rowIs w1.heap.size 73 M F ∧ ∀ j, j < i → F j = .pointer (some ⟨w1.heap.size + 1 + j, 0, none⟩)
  ent : ∀ j, j < i → wx.cell? ⟨w1.heap.size + 1 + j, 0, none⟩ = some (.pointer (some ⟨D (J j), 0, none⟩)) ∧ wx.cell? ⟨w1.heap.size + 1 + j, 1, none⟩ = some (.slice none 0 0) ∧ IsCells wx (w1.heap.size + 1 + j)

theorem Ybaf.info73 : (Ybaf.prog.info? 73).map (fun i => (i.zero, i.size, i.bytes)) = some (some (.pointer none), 1, 8) := by kernel_rfl

theorem Pathed.made (w1 : World) (M : Nat) (D J : Nat → Nat) : Pathed w1 (w1.alloc (.cells (madeCells #[.pointer none] M) 73)) M 0 D J :=
  ⟨(Below.refl _ _).alloc (Nat.le_refl _) _, by simp, ⟨_, World.rowIs_made w1 (.pointer none) M 73, fun j hj => by omega⟩, fun j hj => by omega⟩

theorem Pathed.next {w1 wx : World} {M i : Nat} {D J : Nat → Nat} (h : Pathed w1 wx M i D J) (b : Nat) (eb : b = w1.heap.size + 1 + i) :
    Pathed w1 ((wx.alloc (.cells #[.pointer (some ⟨D (J i), 0, none⟩), .slice none 0 0] 76)).setCell ⟨w1.heap.size, i, none⟩ (.pointer (some ⟨b, 0, none⟩))) M (i + 1) D J := by
  obtain ⟨F, hr, hF⟩ := h.row
  have hz := h.size
  have e : wx.heap.size = b := by omega
  have k0 := Go.Deep.blk_alloc_new wx (.cells #[.pointer (some ⟨D (J i), 0, none⟩), .slice none 0 0] 76)
  rw [e] at k0
  have hr2 := hr.alloc (.cells #[.pointer (some ⟨D (J i), 0, none⟩), .slice none 0 0] 76)
  have hg := World.grownBy_alloc wx (.cells #[.pointer (some ⟨D (J i), 0, none⟩), .slice none 0 0] 76) none
  have hs : (wx.alloc (.cells #[.pointer (some ⟨D (J i), 0, none⟩), .slice none 0 0] 76)).heap.size = wx.heap.size + 1 := by simp
  generalize wx.alloc (.cells #[.pointer (some ⟨D (J i), 0, none⟩), .slice none 0 0] 76) = W at k0 hr2 hg hs ⊢
  have hgs := grownBy_setCell W ⟨w1.heap.size, i, none⟩ (.pointer (some ⟨b, 0, none⟩))
  have hc : ∀ {x j : Nat} {v : Value}, x ≠ w1.heap.size → W.cell? ⟨x, j, none⟩ = some v → (W.setCell ⟨w1.heap.size, i, none⟩ (.pointer (some ⟨b, 0, none⟩))).cell? ⟨x, j, none⟩ = some v := fun hx h => cell_set_other h hx
  refine ⟨(h.bel.grown hg h.bel.size (fun k hk => by cases hk)).grown hgs (by have := h.bel.size; omega) (fun k hk => by cases hk; exact Nat.le_refl _), ?_, ⟨_, hr2.set i _, ?_⟩, ?_⟩
  · have : (W.setCell ⟨w1.heap.size, i, none⟩ (.pointer (some ⟨b, 0, none⟩))).heap.size = W.heap.size := by simp [World.setCell]
    omega
  · intro j hj
    by_cases ej : j = i
    · subst ej; rw [if_pos rfl, eb]
    · rw [if_neg ej]; exact hF j (by omega)
  · intro j hj
    by_cases ej : j = i
    · subst ej
      rw [← eb]
      refine ⟨hc (by omega) (by rw [cell_of_row _ _ _ _ _ _ k0]; rfl), hc (by omega) (by rw [cell_of_row _ _ _ _ _ _ k0]; rfl), ?_⟩
      exact IsCells.kept (w := W) ⟨_, _, k0⟩ hgs (by simp; omega)
    · obtain ⟨m1, m2, m3⟩ := h.ent j (by omega)
      refine ⟨hc (by omega) ((hg.cell_far ⟨_, 0, none⟩ (World.block_lt_of_cell? wx _ m1) (by simp)).trans m1), hc (by omega) ((hg.cell_far ⟨_, 1, none⟩ (World.block_lt_of_cell? wx _ m2) (by simp)).trans m2), ?_⟩
      exact (m3.kept hg (by simp)).kept hgs (by simp; omega)
end Go.Proofs.YbulkaobwFmt
