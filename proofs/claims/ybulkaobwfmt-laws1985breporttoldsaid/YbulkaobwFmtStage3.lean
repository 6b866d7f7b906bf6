import Derived.Test.YbulkaobwFmtStage2
namespace Go.Proofs.YbulkaobwFmt
open Go.RowKit
set_option linter.unusedVariables false
set_option linter.unusedSimpArgs false

theorem Ybaf.info4 : (Ybaf.prog.info? 4).map (fun i => (i.zero, i.size, i.bytes)) = some (some (.bool false), 1, 1) := by kernel_rfl

/-- The containment and what the law has marked, behind w3. -/
structure Marks (w3 wx : World) (n cb : Nat) (D : Nat → Nat) (ks : List Nat) : Prop where
  bel : Below w3.heap.size w3 wx
  w0 : wx.cell? ⟨w3.heap.size + 1 + 1, 0, none⟩ = some (.pointer (some ⟨cb, 0, none⟩))
  w2 : wx.cell? ⟨w3.heap.size + 1 + 1, 2, none⟩ = some (.map (some (w3.heap.size + 1)))
  map : PMap wx (w3.heap.size + 1) ks
  keys : ∀ x ∈ ks, ∃ j, j < n ∧ x = D j
  was : ∃ F, wx.rowIs (w3.heap.size + 1 + 1 + 1) 4 n F ∧ ∀ j, j < n → F j = .bool (decide (D j ∈ ks))

theorem Marks.made (w3 : World) (n cb : Nat) (D : Nat → Nat) : Marks w3 ((((w3.alloc (.map #[] 0)).alloc (.map #[] 0)).alloc (.cells #[.pointer (some ⟨cb, 0, none⟩), .map (some w3.heap.size), .map (some (w3.heap.size + 1))] 81)).alloc (.cells (madeCells #[.bool false] n) 4)) n cb D [] := by
  have hr := World.rowIs_made (((w3.alloc (.map #[] 0)).alloc (.map #[] 0)).alloc (.cells #[.pointer (some ⟨cb, 0, none⟩), .map (some w3.heap.size), .map (some (w3.heap.size + 1))] 81)) (.bool false) n 4
  have hz : (((w3.alloc (.map #[] 0)).alloc (.map #[] 0)).alloc (.cells #[.pointer (some ⟨cb, 0, none⟩), .map (some w3.heap.size), .map (some (w3.heap.size + 1))] 81)).heap.size = w3.heap.size + 1 + 1 + 1 := by simp
  rw [hz] at hr
  obtain ⟨k0, k1, k2⟩ := blk3 w3 (.map #[] 0) (.map #[] 0) (.cells #[.pointer (some ⟨cb, 0, none⟩), .map (some w3.heap.size), .map (some (w3.heap.size + 1))] 81)
  have hb := (((Below.refl w3.heap.size w3).alloc (Nat.le_refl _) (.map #[] 0)).alloc (by simp) (.map #[] 0)).alloc (by simp; omega) (.cells #[.pointer (some ⟨cb, 0, none⟩), .map (some w3.heap.size), .map (some (w3.heap.size + 1))] 81)
  generalize (((w3.alloc (.map #[] 0)).alloc (.map #[] 0)).alloc (.cells #[.pointer (some ⟨cb, 0, none⟩), .map (some w3.heap.size), .map (some (w3.heap.size + 1))] 81)) = W at *
  have hg := World.grownBy_alloc W (.cells (madeCells #[.bool false] n) 4) none
  have q1 : (W.alloc (.cells (madeCells #[.bool false] n) 4)).heap[w3.heap.size + 1]? = some (.map #[] 0) := by rw [hg.block _ (by omega) (by simp)]; exact k1
  have q2 : (W.alloc (.cells (madeCells #[.bool false] n) 4)).heap[w3.heap.size + 2]? = some (.cells #[.pointer (some ⟨cb, 0, none⟩), .map (some w3.heap.size), .map (some (w3.heap.size + 1))] 81) := by rw [hg.block _ (by omega) (by simp)]; exact k2
  refine ⟨hb.alloc (by omega) _, ?_, ?_, ⟨#[], 0, q1, rfl⟩, by simp, ⟨_, hr, by simp⟩⟩
  · rw [show w3.heap.size + 1 + 1 = w3.heap.size + 2 by omega, cell_of_row _ _ _ _ _ _ q2]; rfl
  · rw [show w3.heap.size + 1 + 1 = w3.heap.size + 2 by omega, cell_of_row _ _ _ _ _ _ q2]; rfl

/-- Behind the store into 'was'. -/
structure Marking (w3 wx : World) (n cb : Nat) (D : Nat → Nat) (ks : List Nat) (i : Nat) : Prop where
  bel : Below w3.heap.size w3 wx
  w0 : wx.cell? ⟨w3.heap.size + 1 + 1, 0, none⟩ = some (.pointer (some ⟨cb, 0, none⟩))
  w2 : wx.cell? ⟨w3.heap.size + 1 + 1, 2, none⟩ = some (.map (some (w3.heap.size + 1)))
  map : PMap wx (w3.heap.size + 1) ks
  keys : ∀ x ∈ ks, ∃ j, j < n ∧ x = D j
  was : ∃ F, wx.rowIs (w3.heap.size + 1 + 1 + 1) 4 n F ∧ ∀ j, j < n → F j = .bool (decide (D j ∈ ks) || decide (j = i))

theorem Marks.store {w3 wx : World} {n cb : Nat} {D : Nat → Nat} {ks : List Nat} (h : Marks w3 wx n cb D ks) (i : Nat) : Marking w3 (wx.setCell ⟨w3.heap.size + 1 + 1 + 1, i, none⟩ (.bool true)) n cb D ks i := by
  have hgs := grownBy_setCell wx ⟨w3.heap.size + 1 + 1 + 1, i, none⟩ (.bool true)
  have hc : ∀ {x j : Nat} {v : Value}, x ≠ w3.heap.size + 1 + 1 + 1 → wx.cell? ⟨x, j, none⟩ = some v → (wx.setCell ⟨w3.heap.size + 1 + 1 + 1, i, none⟩ (.bool true)).cell? ⟨x, j, none⟩ = some v := fun hx h => cell_set_other h hx
  obtain ⟨F, hF, hF2⟩ := h.was
  refine ⟨h.bel.grown hgs h.bel.size (fun k hk => by cases hk; simp only; omega), hc (by omega) h.w0, hc (by omega) h.w2, h.map.kept hgs (by simp), h.keys, ⟨_, hF.set i _, ?_⟩⟩
  intro j hj
  by_cases e : j = i
  · subst e; simp
  · rw [if_neg e, hF2 j hj]; simp [e]

theorem Marking.drew {w3 wx : World} {n cb : Nat} {D : Nat → Nat} {ks : List Nat} {i : Nat} (h : Marking w3 wx n cb D ks i) : Marking w3 wx.drew n cb D ks i :=
  ⟨h.bel.drew, h.w0, h.w2, h.map.kept (grownBy_drewN (World.grownBy.refl wx none) 1) (by simp), h.keys, h.was⟩

theorem mem_put {ks : List Nat} {a b : Nat} : b ∈ (if a ∈ ks then ks else ks ++ [a]) ↔ b ∈ ks ∨ b = a := by
  split
  · constructor
    · exact Or.inl
    · rintro (h | rfl)
      · exact h
      · assumption
  · simp

theorem Marking.put {w3 wx wy : World} {n cb : Nat} {D : Nat → Nat} {ks : List Nat} {i : Nat} (h : Marking w3 wx n cb D ks i) (hi : i < n) (inj : ∀ i j, i < n → j < n → D i = D j → i = j) (hm : PMap wy (w3.heap.size + 1) (if D i ∈ ks then ks else ks ++ [D i])) (hg : wx.grownBy wy (some (w3.heap.size + 1))) :
    Marks w3 wy n cb D (if D i ∈ ks then ks else ks ++ [D i]) := by
  have hc : ∀ {x j : Nat} {v : Value}, x ≠ w3.heap.size + 1 → wx.cell? ⟨x, j, none⟩ = some v → wy.cell? ⟨x, j, none⟩ = some v := fun {x j v} hx hc => (hg.cell_far ⟨x, j, none⟩ (World.block_lt_of_cell? wx _ hc) (by simpa using hx)).trans hc
  obtain ⟨F, hF, hF2⟩ := h.was
  refine ⟨h.bel.grown hg h.bel.size (fun k hk => by cases hk; omega), hc (by omega) h.w0, hc (by omega) h.w2, hm, ?_, ⟨F, hF.of_block (hg.block _ hF.lt (by simp; omega)), ?_⟩⟩
  · intro x hx
    rcases mem_put.1 hx with hx | rfl
    · exact h.keys x hx
    · exact ⟨i, hi, rfl⟩
  · intro j hj
    rw [hF2 j hj]
    congr 1
    have : (D j ∈ (if D i ∈ ks then ks else ks ++ [D i])) ↔ (D j ∈ ks ∨ j = i) := by
      rw [mem_put]
      constructor
      · rintro (h | h)
        · exact Or.inl h
        · exact Or.inr (inj j i hj hi h)
      · rintro (h | rfl)
        · exact Or.inl h
        · exact Or.inr rfl
    rw [Bool.eq_iff_iff]
    simp [this]
end Go.Proofs.YbulkaobwFmt
