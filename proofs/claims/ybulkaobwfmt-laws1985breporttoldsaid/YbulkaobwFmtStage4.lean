import Derived.Test.YbulkaobwFmtStage3
namespace Go.Proofs.YbulkaobwFmt
open Go.RowKit
set_option linter.unusedVariables false
set_option linter.unusedSimpArgs false

theorem own_range {w : World} {base e size n : Nat} {v : Value} {xs : List Value} (h : w.ownsRow base e size v n xs) : ∀ k, v.ownBlock = some k → base ≤ k ∧ k < w.heap.size := by
  intro k hk
  obtain ⟨_, h | ⟨g, cap, cur, rfl, hg, hh, _⟩⟩ := h
  · rw [h.1] at hk; simp [Value.ownBlock] at hk
  · simp [Value.ownBlock] at hk
    have := (Array.getElem?_eq_some_iff.1 hh).1
    omega

theorem ownsRow_below {w w' : World} {base e size n : Nat} {v : Value} {xs : List Value} (h : w.ownsRow base e size v n xs) (hb : Below w.heap.size w w') : w'.ownsRow base e size v n xs :=
  ownsRow_kept h (grown_of_below hb) (fun _ _ _ _ _ => by simp)

theorem rep_of {w w1 w2 w3 wx : World} {n M K cap cb ti : Nat} {ao : Option Addr} {D S N J : Nat → Nat} {L C : Nat → Int} {es ks : List Nat} (hE : Env w w1 n w.heap.size (w.heap.size + 1) D S N L C) (hpt : Pathed w1 w2 M M D J) (hJ : ∀ j, j < M → J j < n)
    (hL : Log w2 w3 K (D ti) K (.slice ao K cap) (.slice ao K cap) es es) (hM : Marks w3 wx n (w2.heap.size + 1 + 1 + 1) D ks) (hti : ti < n) :
    Rep wx (w3.heap.size + 1 + 1) w2.heap.size (D ti) (S ti) (N ti) (w2.heap.size + 1 + 1 + 1) (w2.heap.size + 1 + 1) (w2.heap.size + 1) (w3.heap.size + 1) K cap (w2.heap.size + 1 + 1 + 1 + 1 + 1) ao ks (eptrs es) ⟨#[]⟩ (L ti) (C ti) (some ⟨w1.heap.size, 0, none⟩) M := by
  have h3 : ∀ {b j : Nat} {v : Value}, w3.cell? ⟨b, j, none⟩ = some v → wx.cell? ⟨b, j, none⟩ = some v := fun {b j v} hc => (hM.bel.cell (p := ⟨b, j, none⟩) (World.block_lt_of_cell? w3 _ hc)).trans hc
  have h2 : ∀ {b j : Nat} {v : Value}, w2.cell? ⟨b, j, none⟩ = some v → wx.cell? ⟨b, j, none⟩ = some v := fun {b j v} hc => h3 ((hL.bel.cell (p := ⟨b, j, none⟩) (World.block_lt_of_cell? w2 _ hc)).trans hc)
  have i3 : ∀ {b : Nat}, IsCells w3 b → IsCells wx b := fun {b} hc => hc.kept (grown_of_below hM.bel) (by simp)
  have i2 : ∀ {b : Nat}, IsCells w2 b → IsCells wx b := fun {b} hc => i3 (hc.kept (grown_of_below hL.bel) (by simp))
  have hEx := ((hE.below hpt.bel).below hL.bel).below hM.bel
  obtain ⟨F, hF, hF2⟩ := hpt.row
  refine ⟨hM.w0, hM.w2, hM.map, ?_, h3 hL.t0, h3 hL.t1, i3 hL.tc, hEx.nm ti hti, hEx.d1 ti hti, hEx.s0 ti hti, hEx.n0 ti hti, hEx.n1 ti hti, ?_, h3 hL.c0, h3 hL.c1, ?_, h3 hL.p0, h3 hL.f0, ownsRow_below hL.own hM.bel, Nat.le_trans hL.hs hM.bel.size⟩
  · intro x hx
    obtain ⟨j, hj, rfl⟩ := hM.keys x hx
    exact (hEx.nm j hj).cells
  · intro j hj
    obtain ⟨m1, m2, m3⟩ := hpt.ent j hj
    refine ⟨w1.heap.size, w1.heap.size + 1 + j, D (J j), rfl, h2 ?_, ?_, h2 m1, h2 m2, i2 m3, hEx.nm _ (hJ j hj)⟩
    · rw [hF.cell hj, hF2 j hj]
    · have := m3.lt; omega
  · exact (hM.bel.frozen (p := ⟨w2.heap.size + 1 + 1 + 1, 1, none⟩) (World.block_lt_of_cell? w3 _ hL.c1)).trans hL.fz

theorem apart_of {w w1 w2 w3 : World} {n M K cap ti : Nat} {ao : Option Addr} {D S N J : Nat → Nat} {L C : Nat → Int} {es : List Nat} (hE : Env w w1 n w.heap.size (w.heap.size + 1) D S N L C) (hpt : Pathed w1 w2 M M D J)
    (hL : Log w2 w3 K (D ti) K (.slice ao K cap) (.slice ao K cap) es es) (hti : ti < n) : Apart (w3.heap.size + 1 + 1) w2.heap.size (D ti) (S ti) (N ti) (w2.heap.size + 1 + 1 + 1) (w2.heap.size + 1 + 1) (w2.heap.size + 1) (.slice ao K cap) := by
  have z1 := hpt.bel.size
  have z2 := hL.hs
  have d := World.block_lt_of_cell? w1 _ (hE.d1 ti hti)
  have s := World.block_lt_of_cell? w1 _ (hE.s0 ti hti)
  have nn := World.block_lt_of_cell? w1 _ (hE.n0 ti hti)
  simp only at d s nn
  have hr := own_range hL.own
  refine ⟨?_, ?_⟩
  · intro b hb
    simp only [List.mem_cons, List.not_mem_nil, or_false] at hb
    omega
  · intro b hb e
    have := hr b e.symm
    simp only [List.mem_cons, List.not_mem_nil, or_false] at hb
    omega

/-- What the law finds behind the report. -/
structure Fin (w w5 : World) (n K ti db qb tb fb pb cb ob mb wb ub g cap eb : Nat) (D : Nat → Nat) (L C : Int) (es ks : List Nat) : Prop where
  bel : Below w.heap.size w w5
  c1 : w5.cell? ⟨cb, 1, none⟩ = some (.slice (some ⟨g, 0, none⟩) (K + 1) cap)
  ent : ∀ j, j < K → ∃ b, w5.cell? ⟨g, j, none⟩ = some (.pointer (some ⟨b, 0, none⟩)) ∧ w5.cell? ⟨ob, j, none⟩ = some (.pointer (some ⟨b, 0, none⟩))
  last : w5.cell? ⟨g, K, none⟩ = some (.pointer (some ⟨eb, 0, none⟩))
  e0 : w5.cell? ⟨eb, 0, none⟩ = some (.string ⟨#[]⟩)
  e1 : w5.cell? ⟨eb, 1, none⟩ = some (.int .i64 L)
  e2 : w5.cell? ⟨eb, 2, none⟩ = some (.int .i64 C)
  q0 : w5.cell? ⟨qb, ti * 2, none⟩ = some (.int .i64 L)
  q1 : w5.cell? ⟨qb, ti * 2 + 1, none⟩ = some (.int .i64 C)
  p0 : w5.cell? ⟨pb, 0, none⟩ = some (.pointer (some ⟨fb, 0, none⟩))
  f0 : w5.cell? ⟨fb, 0, none⟩ = some (.string ⟨#[]⟩)
  w2 : w5.cell? ⟨wb, 2, none⟩ = some (.map (some mb))
  t0 : w5.cell? ⟨tb, 0, none⟩ = some (.pointer (some ⟨D ti, 0, none⟩))
  map : PMap w5 mb (if D ti ∈ ks then ks else ks ++ [D ti])
  look : ∀ q j, j < n → (Instr.lookup 79 (.map (some mb)) (.pointer (some ⟨D j, 0, none⟩)) false).run Ybaf.prog (w5.drewN q) = .ok (.bool (decide (D j ∈ ks) || decide (j = ti))) (w5.drewN q)
  dc : ∀ j, j < n → w5.cell? ⟨db, j, none⟩ = some (.pointer (some ⟨D j, 0, none⟩))
  was : ∀ j, j < n → w5.cell? ⟨ub, j, none⟩ = some (.bool (decide (D j ∈ ks)))

theorem PMap.drewN {w : World} {mb : Nat} {ks : List Nat} (h : PMap w mb ks) (q : Nat) : PMap (w.drewN q) mb ks := h

theorem Fin.drewN {w w5 : World} {n K ti db qb tb fb pb cb ob mb wb ub g cap eb : Nat} {D : Nat → Nat} {L C : Int} {es ks : List Nat} (h : Fin w w5 n K ti db qb tb fb pb cb ob mb wb ub g cap eb D L C es ks) (q : Nat) : Fin w (w5.drewN q) n K ti db qb tb fb pb cb ob mb wb ub g cap eb D L C es ks :=
  ⟨⟨h.bel.os, h.bel.tape, h.bel.output, h.bel.size, h.bel.block⟩, h.c1, h.ent, h.last, h.e0, h.e1, h.e2, h.q0, h.q1, h.p0, h.f0, h.w2, h.t0, h.map, fun r j hj => by rw [World.drewN_drewN]; exact h.look _ j hj, h.dc, h.was⟩

theorem own_cell {w : World} {base n g c : Nat} {xs : List Value} (h : w.ownsRow base 24 1 (.slice (some ⟨g, 0, none⟩) n c) n xs) {j : Nat} (hj : j < n) {b : Nat} (hx : xs[j]? = some (.pointer (some ⟨b, 0, none⟩))) : w.cell? ⟨g, j, none⟩ = some (.pointer (some ⟨b, 0, none⟩)) := by
  obtain ⟨h1, h | ⟨g', cap, cur, hv, hg, hh, h2, h3, h4, h5⟩⟩ := h
  · simp at h
  · simp at hv
    obtain ⟨rfl, rfl⟩ := hv
    rw [cell_of_row _ _ _ _ _ _ hh, ← hx, ← h5, List.getElem?_take_of_lt (by omega)]
    simp

theorem fin_of {w w1 w2 w3 wx w5 : World} {n M K cap ti g cap' eb : Nat} {ao : Option Addr} {D S N J : Nat → Nat} {L C : Nat → Int} {es ks : List Nat} (hE : Env w w1 n w.heap.size (w.heap.size + 1) D S N L C) (hpt : Pathed w1 w2 M M D J)
    (hL : Log w2 w3 K (D ti) K (.slice ao K cap) (.slice ao K cap) es es) (hes : es.length = K) (hM : Marks w3 wx n (w2.heap.size + 1 + 1 + 1) D ks) (hti : ti < n)
    (hR : Reported wx w5 (w2.heap.size + 1 + 1 + 1) (w3.heap.size + 1) (D ti) K (w2.heap.size + 1 + 1 + 1 + 1 + 1) (.slice ao K cap) ks (eptrs es) ⟨#[]⟩ (L ti) (C ti) g cap' eb) :
    Fin w w5 n K ti w.heap.size (w.heap.size + 1) w2.heap.size (w2.heap.size + 1) (w2.heap.size + 1 + 1) (w2.heap.size + 1 + 1 + 1) (w2.heap.size + 1 + 1 + 1 + 1) (w3.heap.size + 1) (w3.heap.size + 1 + 1) (w3.heap.size + 1 + 1 + 1) g cap' eb D (L ti) (C ti) es ks := by
  have z1 := hpt.bel.size
  have z2 := hL.hs
  have z3 := hM.bel.size
  have z0 := hE.bel.size
  have hr := own_range hL.own
  have hEx := ((hE.below hpt.bel).below hL.bel).below hM.bel
  -- what lies apart of what the report writes stays
  have hfar : ∀ b, b < wx.heap.size → (b < w2.heap.size + 1 + 1 + 1 + 1 + 1 ∨ w3.heap.size ≤ b) → b ≠ w2.heap.size + 1 + 1 + 1 → b ≠ w3.heap.size + 1 → w5.heap[b]? = wx.heap[b]? := fun b hb h1 h2 h3 => hR.block b hb h2 h3 (fun e => by have := hr b e.symm; omega)
  have hc : ∀ {b j : Nat} {v : Value}, (b < w2.heap.size + 1 + 1 + 1 + 1 + 1 ∨ w3.heap.size ≤ b) → b ≠ w2.heap.size + 1 + 1 + 1 → b ≠ w3.heap.size + 1 → wx.cell? ⟨b, j, none⟩ = some v → w5.cell? ⟨b, j, none⟩ = some v := fun {b j v} h1 h2 h3 h => (World.cell?_of_block (w := wx) (a := ⟨b, j, none⟩) (hfar b (World.block_lt_of_cell? wx _ h) h1 h2 h3)).trans h
  have h3 : ∀ {b j : Nat} {v : Value}, w3.cell? ⟨b, j, none⟩ = some v → wx.cell? ⟨b, j, none⟩ = some v := fun {b j v} hc => (hM.bel.cell (p := ⟨b, j, none⟩) (World.block_lt_of_cell? w3 _ hc)).trans hc
  have hDl : ∀ j, j < n → D j < w1.heap.size := fun j hj => (hE.nm j hj).cells.lt
  have hcD : ∀ j, j < n → IsCells w5 (D j) := fun j hj => by
    obtain ⟨c, t, hb⟩ := (hEx.nm j hj).cells
    have := hDl j hj
    exact ⟨c, t, (hfar _ (Array.getElem?_eq_some_iff.1 hb).1 (by omega) (by omega) (by omega)).trans hb⟩
  have hdb := World.block_lt_of_cell? w1 _ (hE.dc ti hti)
  have hqb := World.block_lt_of_cell? w1 _ (hE.q0 ti hti)
  simp only at hdb hqb
  obtain ⟨F, hF, hF2⟩ := hL.old
  obtain ⟨G, hG, hG2⟩ := hM.was
  refine ⟨⟨hR.os.trans hEx.bel.os, hR.tape.trans hEx.bel.tape, hR.output.trans hEx.bel.output, Nat.le_trans hEx.bel.size hR.size, fun k hk => (hfar k (by omega) (by omega) (by omega) (by omega)).trans (hEx.bel.block k hk)⟩, hR.c1, ?_, ?_, hR.e0, hR.e1, hR.e2, ?_, ?_, ?_, ?_, ?_, ?_, hR.map, ?_, ?_, ?_⟩
  · intro j hj
    have hjl : j < es.length := by omega
    refine ⟨es[j], own_cell hR.own (by omega) ?_, hc (by omega) (by omega) (by omega) (h3 ?_)⟩
    · rw [List.getElem?_append_left (by simp [eptrs]; omega)]; simp [eptrs, hjl]
    · rw [hF.cell hj, hF2 j es[j] (List.getElem?_eq_getElem hjl)]
  · refine own_cell hR.own (by omega) ?_
    rw [List.getElem?_append_right (by simp [eptrs]; omega)]; simp [eptrs, hes]
  · exact hc (by omega) (by omega) (by omega) (hEx.q0 ti hti)
  · exact hc (by omega) (by omega) (by omega) (hEx.q1 ti hti)
  · exact hc (by omega) (by omega) (by omega) (h3 hL.p0)
  · exact hc (by omega) (by omega) (by omega) (h3 hL.f0)
  · exact hc (by omega) (by omega) (by omega) hM.w2
  · exact hc (by omega) (by omega) (by omega) (h3 hL.t0)
  · intro q j hj
    have hlk := (hR.map.drewN q).look (k := D j) (fun x hx => by
      rcases mem_put.1 hx with hx | rfl
      · obtain ⟨i, hi, rfl⟩ := hM.keys x hx
        exact hcD i hi
      · exact hcD ti hti) (hcD j hj)
    simp only [ptr] at hlk
    rw [hlk]
    have e : decide (D j ∈ (if D ti ∈ ks then ks else ks ++ [D ti])) = (decide (D j ∈ ks) || decide (j = ti)) := by
      rw [Bool.eq_iff_iff]
      simp only [decide_eq_true_eq, mem_put, Bool.or_eq_true]
      constructor
      · rintro (h | h)
        · exact Or.inl h
        · exact Or.inr (hE.inj j ti hj hti h)
      · rintro (h | rfl)
        · exact Or.inl h
        · exact Or.inr rfl
    rw [e]
  · intro j hj
    exact hc (by omega) (by omega) (by omega) (hEx.dc j hj)
  · intro j hj
    refine hc (by omega) (by omega) (by omega) ?_
    rw [hG.cell hj, hG2 j hj]
end Go.Proofs.YbulkaobwFmt
