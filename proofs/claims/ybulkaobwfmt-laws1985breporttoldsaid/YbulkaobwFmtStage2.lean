import Derived.Test.YbulkaobwFmtStage
namespace Go.Proofs.YbulkaobwFmt
open Go.RowKit
set_option linter.unusedVariables false
set_option linter.unusedSimpArgs false

def eptrs (es : List Nat) : List Value := es.map fun b => .pointer (some ⟨b, 0, none⟩)

/-- The type, the file, the program, the checker and the errors that the law keeps, behind w2. -/
structure Log (w2 wx : World) (K dt n : Nat) (cv sv : Value) (os es : List Nat) : Prop where
  bel : Below w2.heap.size w2 wx
  t0 : wx.cell? ⟨w2.heap.size, 0, none⟩ = some (.pointer (some ⟨dt, 0, none⟩))
  t1 : wx.cell? ⟨w2.heap.size, 1, none⟩ = some (.slice none 0 0)
  tc : IsCells wx w2.heap.size
  f0 : wx.cell? ⟨w2.heap.size + 1, 0, none⟩ = some (.string ⟨#[]⟩)
  p0 : wx.cell? ⟨w2.heap.size + 1 + 1, 0, none⟩ = some (.pointer (some ⟨w2.heap.size + 1, 0, none⟩))
  c0 : wx.cell? ⟨w2.heap.size + 1 + 1 + 1, 0, none⟩ = some (.pointer (some ⟨w2.heap.size + 1 + 1, 0, none⟩))
  c1 : wx.cell? ⟨w2.heap.size + 1 + 1 + 1, 1, none⟩ = some cv
  fz : wx.frozen? ⟨w2.heap.size + 1 + 1 + 1, 1, none⟩ = false
  old : ∃ F, wx.rowIs (w2.heap.size + 1 + 1 + 1 + 1) 24 K F ∧ ∀ j b, os[j]? = some b → F j = .pointer (some ⟨b, 0, none⟩)
  own : wx.ownsRow (w2.heap.size + 1 + 1 + 1 + 1 + 1) 24 1 sv n (eptrs es)
  hs : w2.heap.size + 1 + 1 + 1 + 1 + 1 ≤ wx.heap.size

/-- What changes none of these blocks. -/
theorem Log.kept {w2 wx wy : World} {K dt n n' : Nat} {cv sv sv' : Value} {os es es' : List Nat} (h : Log w2 wx K dt n cv sv os es) {row : Option Nat} (hg : wx.grownBy wy row) (hr : ∀ k, row = some k → w2.heap.size + 1 + 1 + 1 + 1 + 1 ≤ k)
    (hown : wy.ownsRow (w2.heap.size + 1 + 1 + 1 + 1 + 1) 24 1 sv' n' (eptrs es')) : Log w2 wy K dt n' cv sv' os es' := by
  have hs := h.hs
  have hne : ∀ {b : Nat}, b < w2.heap.size + 1 + 1 + 1 + 1 + 1 → some b ≠ row := fun {b} hb e => by have := hr b e.symm; omega
  have hc : ∀ {b j : Nat} {v : Value}, b < w2.heap.size + 1 + 1 + 1 + 1 + 1 → wx.cell? ⟨b, j, none⟩ = some v → wy.cell? ⟨b, j, none⟩ = some v := fun {b j v} hb hc => (hg.cell_far ⟨b, j, none⟩ (World.block_lt_of_cell? wx _ hc) (hne hb)).trans hc
  obtain ⟨F, hF, hF2⟩ := h.old
  exact ⟨h.bel.grown hg h.bel.size (fun k hk => by have := hr k hk; omega), hc (by omega) h.t0, hc (by omega) h.t1, h.tc.kept hg (hne (by omega)), hc (by omega) h.f0, hc (by omega) h.p0, hc (by omega) h.c0, hc (by omega) h.c1,
    (hg.frozen_far ⟨w2.heap.size + 1 + 1 + 1, 1, none⟩ (World.block_lt_of_cell? wx _ h.c1) (hne (b := w2.heap.size + 1 + 1 + 1) (by omega))).trans h.fz, ⟨F, hF.of_block (hg.block _ hF.lt (hne (by omega))), hF2⟩, hown, Nat.le_trans hs hg.size⟩

theorem Log.alloc {w2 wx : World} {K dt n : Nat} {cv sv : Value} {os es : List Nat} (h : Log w2 wx K dt n cv sv os es) (o : Obj) : Log w2 (wx.alloc o) K dt n cv sv os es :=
  h.kept (World.grownBy_alloc wx o none) (fun k hk => by cases hk) (h.own.alloc o)

theorem Log.append {w2 wx v1 : World} {K dt n n' eb : Nat} {cv sv sv' : Value} {os es : List Nat} (h : Log w2 wx K dt n cv sv os es) (o1 : v1.ownsRow (w2.heap.size + 1 + 1 + 1 + 1 + 1) 24 1 sv' n' (eptrs es ++ [.pointer (some ⟨eb, 0, none⟩)])) (gr1 : wx.grownBy v1 sv.ownBlock) : Log w2 v1 K dt n' cv sv' os (es ++ [eb]) :=
  h.kept gr1 (own_le h.own) (by simpa [eptrs] using o1)

theorem ownsRow_set {w : World} {base e size n : Nat} {v : Value} {xs : List Value} (h : w.ownsRow base e size v n xs) {b j : Nat} (hb : b < base) (u : Value) : (w.setCell ⟨b, j, none⟩ u).ownsRow base e size v n xs :=
  by
    obtain ⟨h1, h | ⟨g, cap, cur, hv, hg, hh, r⟩⟩ := h
    · exact ⟨h1, Or.inl h⟩
    · exact ⟨h1, Or.inr ⟨g, cap, cur, hv, hg, by rw [Below.heap_setCell _ _ _ _ (by simp only; omega)]; exact hh, r⟩⟩

theorem Log.setOld {w2 wx : World} {K dt n : Nat} {cv sv : Value} {os es : List Nat} (h : Log w2 wx K dt n cv sv os es) {i : Nat} (hl : os.length = i) (b : Nat) : Log w2 (wx.setCell ⟨w2.heap.size + 1 + 1 + 1 + 1, i, none⟩ (.pointer (some ⟨b, 0, none⟩))) K dt n cv sv (os ++ [b]) es := by
  have hc : ∀ {x j : Nat} {v : Value}, x ≠ w2.heap.size + 1 + 1 + 1 + 1 → wx.cell? ⟨x, j, none⟩ = some v → (wx.setCell ⟨w2.heap.size + 1 + 1 + 1 + 1, i, none⟩ (.pointer (some ⟨b, 0, none⟩))).cell? ⟨x, j, none⟩ = some v := fun hx h => cell_set_other h hx
  have hgs := grownBy_setCell wx ⟨w2.heap.size + 1 + 1 + 1 + 1, i, none⟩ (.pointer (some ⟨b, 0, none⟩))
  obtain ⟨F, hF, hF2⟩ := h.old
  refine ⟨h.bel.grown hgs h.bel.size (fun k hk => by cases hk; simp only; omega), hc (by omega) h.t0, hc (by omega) h.t1, h.tc.kept hgs (by simp; omega), hc (by omega) h.f0, hc (by omega) h.p0, hc (by omega) h.c0, hc (by omega) h.c1, by simpa using h.fz, ⟨_, hF.set i _, ?_⟩, ownsRow_set h.own (by omega) _, by have := h.hs; simpa [World.setCell] using this⟩
  intro j x hx
  by_cases e : j = i
  · subst e
    rw [List.getElem?_append_right (by omega)] at hx
    simp [hl] at hx
    rw [if_pos rfl, hx]
  · rw [if_neg e]
    have : j < os.length := by
      rcases Nat.lt_or_ge j os.length with h | h
      · exact h
      · rw [List.getElem?_eq_none (by simp; omega)] at hx; cases hx
    rw [List.getElem?_append_left this] at hx
    exact hF2 j x hx

theorem Log.setC {w2 wx : World} {K dt n : Nat} {cv sv : Value} {os es : List Nat} (h : Log w2 wx K dt n cv sv os es) (v : Value) : Log w2 (wx.setCell ⟨w2.heap.size + 1 + 1 + 1, 1, none⟩ v) K dt n v sv os es := by
  have hc : ∀ {x j : Nat} {u : Value}, x ≠ w2.heap.size + 1 + 1 + 1 → wx.cell? ⟨x, j, none⟩ = some u → (wx.setCell ⟨w2.heap.size + 1 + 1 + 1, 1, none⟩ v).cell? ⟨x, j, none⟩ = some u := fun hx h => cell_set_other h hx
  have hgs := grownBy_setCell wx ⟨w2.heap.size + 1 + 1 + 1, 1, none⟩ v
  obtain ⟨F, hF, hF2⟩ := h.old
  exact ⟨h.bel.grown hgs h.bel.size (fun k hk => by cases hk; simp only; omega), hc (by omega) h.t0, hc (by omega) h.t1, h.tc.kept hgs (by simp; omega), hc (by omega) h.f0, hc (by omega) h.p0, cell_set_off h.c0 (by omega), cell_set_same h.c1, by simpa using h.fz, ⟨F, hF.setOther (by simp) _, hF2⟩, ownsRow_set h.own (by omega) _, by have := h.hs; simpa [World.setCell] using this⟩

theorem blk5 (w : World) (a b c d e : Obj) : (((((w.alloc a).alloc b).alloc c).alloc d).alloc e).heap[w.heap.size]? = some a ∧ (((((w.alloc a).alloc b).alloc c).alloc d).alloc e).heap[w.heap.size + 1]? = some b ∧
    (((((w.alloc a).alloc b).alloc c).alloc d).alloc e).heap[w.heap.size + 1 + 1]? = some c ∧ (((((w.alloc a).alloc b).alloc c).alloc d).alloc e).heap[w.heap.size + 1 + 1 + 1]? = some d ∧ (((((w.alloc a).alloc b).alloc c).alloc d).alloc e).heap[w.heap.size + 1 + 1 + 1 + 1]? = some e := by
  have h : (((((w.alloc a).alloc b).alloc c).alloc d).alloc e).heap = (((((w.heap.push a).push b).push c).push d).push e) := rfl
  rw [h]
  refine ⟨?_, ?_, ?_, ?_, ?_⟩
  · rw [Array.getElem?_push, if_neg (by simp only [Array.size_push]; omega), Array.getElem?_push, if_neg (by simp only [Array.size_push]; omega), Array.getElem?_push, if_neg (by simp only [Array.size_push]; omega), Array.getElem?_push, if_neg (by simp only [Array.size_push]; omega), Array.getElem?_push, if_pos rfl]
  · rw [Array.getElem?_push, if_neg (by simp only [Array.size_push]; omega), Array.getElem?_push, if_neg (by simp only [Array.size_push]; omega), Array.getElem?_push, if_neg (by simp only [Array.size_push]; omega), Array.getElem?_push, if_pos (by simp only [Array.size_push])]
  · rw [Array.getElem?_push, if_neg (by simp only [Array.size_push]; omega), Array.getElem?_push, if_neg (by simp only [Array.size_push]; omega), Array.getElem?_push, if_pos (by simp only [Array.size_push])]
  · rw [Array.getElem?_push, if_neg (by simp only [Array.size_push]; omega), Array.getElem?_push, if_pos (by simp only [Array.size_push])]
  · rw [Array.getElem?_push, if_pos (by simp only [Array.size_push])]

theorem Log.made (w2 : World) (K dt : Nat) (F P R : List Value) : Log w2 (((((w2.alloc (.cells #[.pointer (some ⟨dt, 0, none⟩), .slice none 0 0] 76)).alloc (.cells (.string ⟨#[]⟩ :: F).toArray 36)).alloc (.cells (.pointer (some ⟨w2.heap.size + 1, 0, none⟩) :: P).toArray 44)).alloc
    (.cells (.pointer (some ⟨w2.heap.size + 1 + 1, 0, none⟩) :: .slice none 0 0 :: R).toArray 49)).alloc (.cells (madeCells #[.pointer none] K) 24)) K dt 0 (.slice none 0 0) (.slice none 0 0) [] [] := by
  obtain ⟨k0, k1, k2, k3, k4⟩ := blk5 w2 (.cells #[.pointer (some ⟨dt, 0, none⟩), .slice none 0 0] 76) (.cells (.string ⟨#[]⟩ :: F).toArray 36) (.cells (.pointer (some ⟨w2.heap.size + 1, 0, none⟩) :: P).toArray 44) (.cells (.pointer (some ⟨w2.heap.size + 1 + 1, 0, none⟩) :: .slice none 0 0 :: R).toArray 49) (.cells (madeCells #[.pointer none] K) 24)
  have hr := World.rowIs_made ((((w2.alloc (.cells #[.pointer (some ⟨dt, 0, none⟩), .slice none 0 0] 76)).alloc (.cells (.string ⟨#[]⟩ :: F).toArray 36)).alloc (.cells (.pointer (some ⟨w2.heap.size + 1, 0, none⟩) :: P).toArray 44)).alloc
    (.cells (.pointer (some ⟨w2.heap.size + 1 + 1, 0, none⟩) :: .slice none 0 0 :: R).toArray 49)) (.pointer none) K 24
  have hz : ((((w2.alloc (.cells #[.pointer (some ⟨dt, 0, none⟩), .slice none 0 0] 76)).alloc (.cells (.string ⟨#[]⟩ :: F).toArray 36)).alloc (.cells (.pointer (some ⟨w2.heap.size + 1, 0, none⟩) :: P).toArray 44)).alloc
    (.cells (.pointer (some ⟨w2.heap.size + 1 + 1, 0, none⟩) :: .slice none 0 0 :: R).toArray 49)).heap.size = w2.heap.size + 1 + 1 + 1 + 1 := by simp
  rw [hz] at hr
  have hb := (((((Below.refl w2.heap.size w2).alloc (Nat.le_refl _) (.cells #[.pointer (some ⟨dt, 0, none⟩), .slice none 0 0] 76)).alloc (by simp) (.cells (.string ⟨#[]⟩ :: F).toArray 36)).alloc (by simp; omega) (.cells (.pointer (some ⟨w2.heap.size + 1, 0, none⟩) :: P).toArray 44)).alloc (by simp; omega)
    (.cells (.pointer (some ⟨w2.heap.size + 1 + 1, 0, none⟩) :: .slice none 0 0 :: R).toArray 49)).alloc (by simp; omega) (.cells (madeCells #[.pointer none] K) 24)
  have hs : (((((w2.alloc (.cells #[.pointer (some ⟨dt, 0, none⟩), .slice none 0 0] 76)).alloc (.cells (.string ⟨#[]⟩ :: F).toArray 36)).alloc (.cells (.pointer (some ⟨w2.heap.size + 1, 0, none⟩) :: P).toArray 44)).alloc
    (.cells (.pointer (some ⟨w2.heap.size + 1 + 1, 0, none⟩) :: .slice none 0 0 :: R).toArray 49)).alloc (.cells (madeCells #[.pointer none] K) 24)).heap.size = w2.heap.size + 1 + 1 + 1 + 1 + 1 := by simp
  generalize (((((w2.alloc (.cells #[.pointer (some ⟨dt, 0, none⟩), .slice none 0 0] 76)).alloc (.cells (.string ⟨#[]⟩ :: F).toArray 36)).alloc (.cells (.pointer (some ⟨w2.heap.size + 1, 0, none⟩) :: P).toArray 44)).alloc
    (.cells (.pointer (some ⟨w2.heap.size + 1 + 1, 0, none⟩) :: .slice none 0 0 :: R).toArray 49)).alloc (.cells (madeCells #[.pointer none] K) 24)) = W at *
  refine ⟨hb, ?_, ?_, ⟨_, _, k0⟩, ?_, ?_, ?_, ?_, ?_, ⟨_, hr, by simp⟩, ⟨rfl, Or.inl ⟨rfl, rfl⟩⟩, by omega⟩
  · rw [cell_of_row _ _ _ _ _ _ k0]; rfl
  · rw [cell_of_row _ _ _ _ _ _ k0]; rfl
  · rw [cell_of_row _ _ _ _ _ _ k1]; rfl
  · rw [cell_of_row _ _ _ _ _ _ k2]; rfl
  · rw [cell_of_row _ _ _ _ _ _ k3]; rfl
  · rw [cell_of_row _ _ _ _ _ _ k3]; rfl
  · simp only [World.frozen?, k3]; simp
end Go.Proofs.YbulkaobwFmt
