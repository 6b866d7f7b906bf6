import Derived.Test.YbulkaobwFmtDoor
import Derived.Test.YbulkaobwFmtOrders
import Derived.Deep.RegionHeld3
import Derived.Deep.DeepCutAuto
import Derived.Deep.CutBlock
import Derived.Deep.AppendLies
import Derived.Deep.OwnRows
import Derived.BigQuiet
import Derived.RegionTactic
import Derived.BigRegion
import Derived.Outline
import Derived.Deep.Light
namespace Go.Proofs.YbulkaobwFmt
open Go.RowKit Go.Extern.Stop Go.Stop Go.Extern
set_option linter.unusedSimpArgs false
set_option linter.unusedVariables false

theorem Ybaf.info24 : (Ybaf.prog.info? 24).map (fun i => (i.zero, i.size, i.bytes)) = some (some (.pointer none), 1, 8) := by kernel_rfl

/-- WHAT errorf LEAVES: one more error, behind those that were there; nothing else that was there has turned. -/
structure Logged (w w' : World) (cb k base : Nat) (v : Value) (xs : List Value) (file : ByteArray) (L C : Int) (g cap eb : Nat) : Prop where
  c1 : w'.cell? ⟨cb, 1, none⟩ = some (.slice (some ⟨g, 0, none⟩) (k + 1) cap)
  own : w'.ownsRow base 24 1 (.slice (some ⟨g, 0, none⟩) (k + 1) cap) (k + 1) (xs ++ [.pointer (some ⟨eb, 0, none⟩)])
  e0 : w'.cell? ⟨eb, 0, none⟩ = some (.string file)
  e1 : w'.cell? ⟨eb, 1, none⟩ = some (.int .i64 L)
  e2 : w'.cell? ⟨eb, 2, none⟩ = some (.int .i64 C)
  lies : v.ownBlock = some g ∨ w.heap.size ≤ g
  eN : w.heap.size ≤ eb
  os : w'.os = w.os
  tape : w'.tape = w.tape
  output : w'.output = w.output
  size : w.heap.size ≤ w'.heap.size
  block : ∀ b, b < w.heap.size → b ≠ cb → some b ≠ v.ownBlock → w'.heap[b]? = w.heap[b]?

theorem ownsRow_setOther {w : World} {base e size n g c : Nat} {xs : List Value} (h : w.ownsRow base e size (.slice (some ⟨g, 0, none⟩) n c) n xs) {b j : Nat} (hne : g ≠ b) (u : Value) : (w.setCell ⟨b, j, none⟩ u).ownsRow base e size (.slice (some ⟨g, 0, none⟩) n c) n xs := by
  obtain ⟨h1, h | ⟨g', cap, cur, hv, hg, hh, r⟩⟩ := h
  · simp at h
  · simp at hv
    obtain ⟨rfl, rfl⟩ := hv
    exact ⟨h1, Or.inr ⟨g, c, cur, rfl, hg, by rw [Below.heap_setCell _ _ _ _ hne]; exact hh, r⟩⟩

theorem cell_set_same {w : World} {b j : Nat} {u v : Value} (h : w.cell? ⟨b, j, none⟩ = some u) : (w.setCell ⟨b, j, none⟩ v).cell? ⟨b, j, none⟩ = some v := by
  simp only [World.cell?] at h ⊢
  cases hb : w.heap[b]? with
  | none => rw [hb] at h; simp at h
  | some o =>
    rw [hb] at h
    cases o with
    | cells c t fr =>
      simp only at h
      simp [World.setCell, Array.getElem?_modify, hb, (Array.getElem?_eq_some_iff.1 h).1]
    | _ => simp at h

theorem cell_set_other {w : World} {b j b' i : Nat} {u v : Value} (h : w.cell? ⟨b, j, none⟩ = some u) (hne : b ≠ b') : (w.setCell ⟨b', i, none⟩ v).cell? ⟨b, j, none⟩ = some u :=
  (World.cell?_of_block (w := w) (a := ⟨b, j, none⟩) (Below.heap_setCell w _ v b hne)).trans h

theorem Logged.mk' {w w4 w5 : World} {cb k base : Nat} {v : Value} {xs : List Value} {file : ByteArray} {L C : Int} {g cap eb : Nat} (hb4 : Below w.heap.size w w4) (hgrow : w4.grownBy w5 v.ownBlock)
    (hown5 : w5.ownsRow base 24 1 (.slice (some ⟨g, 0, none⟩) (k + 1) cap) (k + 1) (xs ++ [.pointer (some ⟨eb, 0, none⟩)])) (hat : v.ownBlock = some g ∨ g = w4.heap.size) (hgc : g ≠ cb) (lc : cb < w.heap.size) (le : w.heap.size ≤ eb)
    {u : Value} (c5 : w5.cell? ⟨cb, 1, none⟩ = some u) (e0 : w4.cell? ⟨eb, 0, none⟩ = some (.string file)) (e1 : w4.cell? ⟨eb, 1, none⟩ = some (.int .i64 L)) (e2 : w4.cell? ⟨eb, 2, none⟩ = some (.int .i64 C)) (oe : some eb ≠ v.ownBlock) :
    Logged w (w5.setCell ⟨cb, 1, none⟩ (.slice (some ⟨g, 0, none⟩) (k + 1) cap)) cb k base v xs file L C g cap eb := by
  have hne : eb ≠ cb := by omega
  refine ⟨cell_set_same c5, ownsRow_setOther hown5 hgc _, ?_, ?_, ?_, ?_, le, ?_, ?_, ?_, ?_, ?_⟩
  · exact cell_set_other ((hgrow.cell_far ⟨eb, 0, none⟩ (World.block_lt_of_cell? w4 _ e0) oe).trans e0) hne
  · exact cell_set_other ((hgrow.cell_far ⟨eb, 1, none⟩ (World.block_lt_of_cell? w4 _ e1) oe).trans e1) hne
  · exact cell_set_other ((hgrow.cell_far ⟨eb, 2, none⟩ (World.block_lt_of_cell? w4 _ e2) oe).trans e2) hne
  · rcases hat with h | h
    · exact Or.inl h
    · exact Or.inr (by have := hb4.size; omega)
  · exact hgrow.os.trans hb4.os
  · exact hgrow.tape.trans hb4.tape
  · exact hgrow.output.trans hb4.output
  · have h1 := hb4.size
    have h2 := hgrow.size
    have h3 : (w5.setCell ⟨cb, 1, none⟩ (.slice (some ⟨g, 0, none⟩) (k + 1) cap)).heap.size = w5.heap.size := by simp [World.setCell]
    omega
  · intro b hb hbc hbo
    rw [Below.heap_setCell _ _ _ _ hbc, hgrow.block b (Nat.lt_of_lt_of_le hb hb4.size) hbo, hb4.block b hb]

theorem own_ne_size {w : World} {base e size n : Nat} {v : Value} {xs : List Value} (h : w.ownsRow base e size v n xs) : some w.heap.size ≠ v.ownBlock := by
  intro e0
  obtain ⟨_, h | ⟨g, cap, cur, rfl, _, hh, _⟩⟩ := h
  · rw [h.1] at e0; simp [Value.ownBlock] at e0
  · simp [Value.ownBlock] at e0
    have := (Array.getElem?_eq_some_iff.1 hh).1
    omega

/-- append at the operation, behind a letter. -/
theorem wp_append_at {P : Program} (w : World) {o : Oper} {d : Option Tmp} {a : Act} {K : Act → World → Prop} {Q : Exit → Act → World → Prop} (hd : o.dst = d) (s x : Operand) (t : TypeId)
    (ho : o.op = .call { callee := .builtin .append, args := #[s, x], argTypes := #[t, t] })
    (base : Nat) (e : TypeId) (i : TypeInfo) (z : Value) (size bytes : Nat) (ht : P.underlying t = some (.slice e)) (hi : P.info? e = some i) (hz : i.zero = some z)
    (hsize : i.size = size) (hby : i.bytes = bytes) (hzs : z.cells.size = size) (hsz : 0 < size)
    (v : Value) (n : Nat) (xs : List Value) (hs : a.eval s = v) (hown : w.ownsRow base e size v n xs)
    (ad : Addr) (m c : Nat) (news : List Value) (hx : a.eval x = .slice (some ad) m c) (hl : news.length = m * size) (hnews : ∀ j u, news[j]? = some u → w.cell? (ad.add j) = some u) (h1 : ∀ u ∈ news, u.oneCell' = true)
    (hm : 0 < m) (h63 : n + m ≤ maxLen) (hbytes : (n + m) * bytes ≤ 140737488355328) (hbase : base ≤ w.heap.size) (H : Nat) (hH : w.heap.size = H)
    (h : ∀ g cap w', w'.ownsRow base e size (.slice (some ⟨g, 0, none⟩) (n + m) cap) (n + m) (xs ++ news) → w.grownBy w' v.ownBlock → (v.ownBlock = some g ∨ g = H) → g < w'.heap.size → K (a.put d (.slice (some ⟨g, 0, none⟩) (n + m) cap)) w') : o.wp P a w K Q := by
  subst hd
  exact wp_append_lies w s x t ho base e i z size bytes ht hi hz hsize hby hzs hsz v n xs hs hown ad m c news hx hl hnews h1 hm h63 hbytes hbase H hH h

/-- What errorf's statement reads. -/
structure Hd (cb pb fb qb vb k cap : Nat) (ao : Option Addr) (file s : ByteArray) (L C : Int) (w : World) : Prop where
  c0 : w.cell? ⟨cb, 0, none⟩ = some (.pointer (some ⟨pb, 0, none⟩))
  c1 : w.cell? ⟨cb, 1, none⟩ = some (.slice ao k cap)
  p0 : w.cell? ⟨pb, 0, none⟩ = some (.pointer (some ⟨fb, 0, none⟩))
  n0 : w.cell? ⟨fb, 0, none⟩ = some (.string file)
  q0 : w.cell? ⟨qb, 0, none⟩ = some (.int .i64 L)
  q1 : w.cell? ⟨qb, 1, none⟩ = some (.int .i64 C)
  v0 : w.cell? ⟨vb, 0, none⟩ = some (.iface 9 (.string s))

theorem Hd.grown {cb pb fb qb vb k cap : Nat} {ao : Option Addr} {file s : ByteArray} {L C : Int} {w w' : World} (h : Hd cb pb fb qb vb k cap ao file s L C w) {row : Option Nat} (hg : w.grownBy w' row)
    (n1 : some cb ≠ row) (n2 : some pb ≠ row) (n3 : some fb ≠ row) (n4 : some qb ≠ row) (n5 : some vb ≠ row) : Hd cb pb fb qb vb k cap ao file s L C w' :=
  ⟨(hg.cell_far _ (World.block_lt_of_cell? w _ h.c0) n1).trans h.c0, (hg.cell_far ⟨cb, 1, none⟩ (World.block_lt_of_cell? w _ h.c1) n1).trans h.c1, (hg.cell_far _ (World.block_lt_of_cell? w _ h.p0) n2).trans h.p0,
    (hg.cell_far _ (World.block_lt_of_cell? w _ h.n0) n3).trans h.n0, (hg.cell_far _ (World.block_lt_of_cell? w _ h.q0) n4).trans h.q0, (hg.cell_far ⟨qb, 1, none⟩ (World.block_lt_of_cell? w _ h.q1) n4).trans h.q1, (hg.cell_far _ (World.block_lt_of_cell? w _ h.v0) n5).trans h.v0⟩

theorem Hd.alloc {cb pb fb qb vb k cap : Nat} {ao : Option Addr} {file s : ByteArray} {L C : Int} {w : World} (h : Hd cb pb fb qb vb k cap ao file s L C w) (o : Obj) : Hd cb pb fb qb vb k cap ao file s L C (w.alloc o) :=
  h.grown (World.grownBy_alloc w o none) (by simp) (by simp) (by simp) (by simp) (by simp)

set_option maxHeartbeats 400000 in
set_option maxRecDepth 100000 in
theorem errorf_any (cb pb fb vb base k cap : Nat) (ao : Option Addr) (xs : List Value) (L C : Int) (f s file : ByteArray) (w : World)
    (hp : FmtStop.printed? f 1 = some [(0, 115, false)]) (hk : k ≤ 8)
    (c0 : w.cell? ⟨cb, 0, none⟩ = some (.pointer (some ⟨pb, 0, none⟩))) (c1 : w.cell? ⟨cb, 1, none⟩ = some (.slice ao k cap)) (f1 : w.frozen? ⟨cb, 1, none⟩ = false)
    (p0 : w.cell? ⟨pb, 0, none⟩ = some (.pointer (some ⟨fb, 0, none⟩))) (n0 : w.cell? ⟨fb, 0, none⟩ = some (.string file)) (v0 : w.cell? ⟨vb, 0, none⟩ = some (.iface 9 (.string s)))
    (hown : w.ownsRow base 24 1 (.slice ao k cap) k xs) (hbase : base ≤ w.heap.size) (oc : some cb ≠ (Value.slice ao k cap).ownBlock) (op : some pb ≠ (Value.slice ao k cap).ownBlock) (of : some fb ≠ (Value.slice ao k cap).ownBlock) (ov : some vb ≠ (Value.slice ao k cap).ownBlock) :
    Calls Ybaf.prog 9 #[.pointer (some ⟨cb, 0, none⟩), .agg #[.int .i64 L, .int .i64 C], .string f, .slice (some ⟨vb, 0, none⟩) 1 1] w fun e w' => e = .returned (.tuple #[]) ∧ ∃ g cap' eb, Logged w w' cb k base (.slice ao k cap) xs file L C g cap' eb := by
  obtain ⟨i0, hi0, hz0, hz1, hz2⟩ := info_parts Ybaf.info24
  have lc := World.block_lt_of_cell? w _ c0
  have lcw : cb < w.heap.size := lc
  have lp := World.block_lt_of_cell? w _ p0
  have lf := World.block_lt_of_cell? w _ n0
  have lv := World.block_lt_of_cell? w _ v0
  have hb := (Below.refl w.heap.size w).alloc (Nat.le_refl _) (.cells #[.int .i64 L, .int .i64 C] 26)
  have d0 := (hb.cell lc).trans c0
  have d1 := (hb.cell (p := ⟨cb, 1, none⟩) lc).trans c1
  have g1 := (hb.frozen (p := ⟨cb, 1, none⟩) lc).trans f1
  have dp := (hb.cell lp).trans p0
  have dn := (hb.cell lf).trans n0
  have dv := (hb.cell lv).trans v0
  have q0 : (w.alloc (.cells #[.int .i64 L, .int .i64 C] 26)).cell? ⟨w.heap.size, 0, none⟩ = some (.int .i64 L) := by simp
  have q1 : (w.alloc (.cells #[.int .i64 L, .int .i64 C] 26)).cell? ⟨w.heap.size, 1, none⟩ = some (.int .i64 C) := by simp
  have hown1 := hown.alloc (.cells #[.int .i64 L, .int .i64 C] 26)
  have hbase1 : base ≤ (w.alloc (.cells #[.int .i64 L, .int .i64 C] 26)).heap.size := by simp; omega
  have oq : some w.heap.size ≠ (Value.slice ao k cap).ownBlock := own_ne_size hown
  go_enter Ybaf.func9, Ybaf.ntmps9
  go_upto_region 1 with fail
  generalize w.alloc (.cells #[.int .i64 L, .int .i64 C] 26) = w1 at hb d0 d1 g1 dp dn dv q0 q1 hown1 hbase1 ⊢
  generalize w.heap.size = qb at q0 q1 oq ⊢
  clear c0 c1 f1 p0 n0 v0 hown lc lp lf lv
  have lc := World.block_lt_of_cell? w1 _ d0
  have lp := World.block_lt_of_cell? w1 _ dp
  have lf := World.block_lt_of_cell? w1 _ dn
  have lv := World.block_lt_of_cell? w1 _ dv
  have lq := World.block_lt_of_cell? w1 _ q0
  have hS : Hd cb pb fb qb vb k cap ao file s L C w1.drew := ⟨d0, d1, dp, dn, q0, q1, dv⟩
  refine wp_region_noPanic (wp_region_X 25 (Hd cb pb fb qb vb k cap ao file s L C) (by kernel_rfl) ?_)
  refine wpAnyX_take 0 (v := ?_) rfl (by kernel_rfl) (by kernel_rfl) (by kernel_rfl) rfl (by kernel_rfl) (fun _ _ _ h => h) hS (Or.inl ⟨by rfl, fun w hSw => ?_⟩) ?_
  rotate_left
  · have e1 := hSw.c0; have e2 := hSw.c1; have e3 := hSw.p0; have e4 := hSw.n0; have e5 := hSw.q0; have e6 := hSw.q1
    go_simp
    try rfl
  simp only [Act.put, List.setIfInBounds_toArray, List.set_cons_zero, List.set_cons_succ]
  refine wpAnyX_take 1 (v := ?_) rfl (by kernel_rfl) (by kernel_rfl) (by kernel_rfl) rfl (by kernel_rfl) (fun _ _ _ h => h) hS (Or.inl ⟨by rfl, fun w hSw => ?_⟩) ?_
  rotate_left
  · have e1 := hSw.c0; have e2 := hSw.c1; have e3 := hSw.p0; have e4 := hSw.n0; have e5 := hSw.q0; have e6 := hSw.q1
    go_simp
    try rfl
  simp only [Act.put, List.setIfInBounds_toArray, List.set_cons_zero, List.set_cons_succ]
  refine wpAnyX_take 2 (v := ?_) rfl (by kernel_rfl) (by kernel_rfl) (by kernel_rfl) rfl (by kernel_rfl) (fun _ _ _ h => h) hS (Or.inl ⟨by rfl, fun w hSw => ?_⟩) ?_
  rotate_left
  · have e1 := hSw.c0; have e2 := hSw.c1; have e3 := hSw.p0; have e4 := hSw.n0; have e5 := hSw.q0; have e6 := hSw.q1
    go_simp
    try rfl
  simp only [Act.put, List.setIfInBounds_toArray, List.set_cons_zero, List.set_cons_succ]
  refine wpAnyX_take 3 (v := ?_) rfl (by kernel_rfl) (by kernel_rfl) (by kernel_rfl) rfl (by kernel_rfl) (fun _ _ _ h => h) hS (Or.inl ⟨by rfl, fun w hSw => ?_⟩) ?_
  rotate_left
  · have e1 := hSw.c0; have e2 := hSw.c1; have e3 := hSw.p0; have e4 := hSw.n0; have e5 := hSw.q0; have e6 := hSw.q1
    go_simp
    try rfl
  simp only [Act.put, List.setIfInBounds_toArray, List.set_cons_zero, List.set_cons_succ]
  refine wpAnyX_take 4 (v := ?_) rfl (by kernel_rfl) (by kernel_rfl) (by kernel_rfl) rfl (by kernel_rfl) (fun _ _ _ h => h) hS (Or.inl ⟨by rfl, fun w hSw => ?_⟩) ?_
  rotate_left
  · have e1 := hSw.c0; have e2 := hSw.c1; have e3 := hSw.p0; have e4 := hSw.n0; have e5 := hSw.q0; have e6 := hSw.q1
    go_simp
    try rfl
  simp only [Act.put, List.setIfInBounds_toArray, List.set_cons_zero, List.set_cons_succ]
  refine wpAnyX_take 5 (v := ?_) rfl (by kernel_rfl) (by kernel_rfl) (by kernel_rfl) rfl (by kernel_rfl) (fun _ _ _ h => h) hS (Or.inl ⟨by rfl, fun w hSw => ?_⟩) ?_
  rotate_left
  · have e1 := hSw.c0; have e2 := hSw.c1; have e3 := hSw.p0; have e4 := hSw.n0; have e5 := hSw.q0; have e6 := hSw.q1
    go_simp
    try rfl
  simp only [Act.put, List.setIfInBounds_toArray, List.set_cons_zero, List.set_cons_succ]
  refine wpAnyX_take 6 (v := ?_) rfl (by kernel_rfl) (by kernel_rfl) (by kernel_rfl) rfl (by kernel_rfl) (fun _ _ _ h => h) hS (Or.inl ⟨by rfl, fun w hSw => ?_⟩) ?_
  rotate_left
  · have e1 := hSw.c0; have e2 := hSw.c1; have e3 := hSw.p0; have e4 := hSw.n0; have e5 := hSw.q0; have e6 := hSw.q1
    go_simp
    try rfl
  simp only [Act.put, List.setIfInBounds_toArray, List.set_cons_zero, List.set_cons_succ]
  refine wpAnyX_take 7 (v := ?_) rfl (by kernel_rfl) (by kernel_rfl) (by kernel_rfl) rfl (by kernel_rfl) (fun _ _ _ h => h) hS (Or.inl ⟨by rfl, fun w hSw => ?_⟩) ?_
  rotate_left
  · have e1 := hSw.c0; have e2 := hSw.c1; have e3 := hSw.p0; have e4 := hSw.n0; have e5 := hSw.q0; have e6 := hSw.q1
    go_simp
    try rfl
  simp only [Act.put, List.setIfInBounds_toArray, List.set_cons_zero, List.set_cons_succ]
  refine wpAnyX_take 8 (v := ?_) rfl (by kernel_rfl) (by kernel_rfl) (by kernel_rfl) rfl (by kernel_rfl) (fun _ _ _ h => h) hS (Or.inl ⟨by rfl, fun w hSw => ?_⟩) ?_
  rotate_left
  · have e1 := hSw.c0; have e2 := hSw.c1; have e3 := hSw.p0; have e4 := hSw.n0; have e5 := hSw.q0; have e6 := hSw.q1
    go_simp
    try rfl
  simp only [Act.put, List.setIfInBounds_toArray, List.set_cons_zero, List.set_cons_succ]
  refine wpAnyX_take 9 (v := ?_) rfl (by kernel_rfl) (by kernel_rfl) (by kernel_rfl) rfl (by kernel_rfl) (fun _ _ _ h => h) hS (Or.inl ⟨by rfl, fun w hSw => ?_⟩) ?_
  rotate_left
  · have e1 := hSw.c0; have e2 := hSw.c1; have e3 := hSw.p0; have e4 := hSw.n0; have e5 := hSw.q0; have e6 := hSw.q1
    go_simp
    try rfl
  simp only [Act.put, List.setIfInBounds_toArray, List.set_cons_zero, List.set_cons_succ]
  refine wpAnyX_take 10 (v := ?_) rfl (by kernel_rfl) (by kernel_rfl) (by kernel_rfl) rfl (by kernel_rfl) (fun _ _ _ h => h) hS (Or.inl ⟨by rfl, fun w hSw => ?_⟩) ?_
  rotate_left
  · have e1 := hSw.c0; have e2 := hSw.c1; have e3 := hSw.p0; have e4 := hSw.n0; have e5 := hSw.q0; have e6 := hSw.q1
    go_simp
    try rfl
  simp only [Act.put, List.setIfInBounds_toArray, List.set_cons_zero, List.set_cons_succ]
  refine wpAnyX_take 11 (v := ?_) rfl (by kernel_rfl) (by kernel_rfl) (by kernel_rfl) rfl (by kernel_rfl) (fun _ _ _ h => h) hS (Or.inl ⟨by rfl, fun w hSw => ?_⟩) ?_
  rotate_left
  · have e1 := hSw.c0; have e2 := hSw.c1; have e3 := hSw.p0; have e4 := hSw.n0; have e5 := hSw.q0; have e6 := hSw.q1
    go_simp
    try rfl
  simp only [Act.put, List.setIfInBounds_toArray, List.set_cons_zero, List.set_cons_succ]
  refine wpAnyX_take 12 (v := ?_) rfl (by kernel_rfl) (by kernel_rfl) (by kernel_rfl) rfl (by kernel_rfl) (fun _ _ _ h => h) hS (Or.inl ⟨by rfl, fun w hSw => ?_⟩) ?_
  rotate_left
  · have e1 := hSw.c0; have e2 := hSw.c1; have e3 := hSw.p0; have e4 := hSw.n0; have e5 := hSw.q0; have e6 := hSw.q1
    go_simp
    try rfl
  simp only [Act.put, List.setIfInBounds_toArray, List.set_cons_zero, List.set_cons_succ]
  refine wpAnyX_take 13 (v := ?_) rfl (by kernel_rfl) (by kernel_rfl) (by kernel_rfl) rfl (by kernel_rfl) (fun _ _ _ h => h) hS (Or.inl ⟨by rfl, fun w hSw => ?_⟩) ?_
  rotate_left
  · have e1 := hSw.c0; have e2 := hSw.c1; have e3 := hSw.p0; have e4 := hSw.n0; have e5 := hSw.q0; have e6 := hSw.q1
    go_simp
    try rfl
  simp only [Act.put, List.setIfInBounds_toArray, List.set_cons_zero, List.set_cons_succ]
  refine wpAnyX_take 14 (v := ?_) rfl (by kernel_rfl) (by kernel_rfl) (by kernel_rfl) rfl (by kernel_rfl) (fun _ _ _ h => h) hS (Or.inl ⟨by rfl, fun w hSw => ?_⟩) ?_
  rotate_left
  · have e1 := hSw.c0; have e2 := hSw.c1; have e3 := hSw.p0; have e4 := hSw.n0; have e5 := hSw.q0; have e6 := hSw.q1
    go_simp
    try rfl
  simp only [Act.put, List.setIfInBounds_toArray, List.set_cons_zero, List.set_cons_succ]
  refine wpAnyX_take 15 (v := ?_) rfl (by kernel_rfl) (by kernel_rfl) (by kernel_rfl) rfl (by kernel_rfl) (fun _ _ _ h => h) hS (Or.inl ⟨by rfl, fun w hSw => ?_⟩) ?_
  rotate_left
  · have e1 := hSw.c0; have e2 := hSw.c1; have e3 := hSw.p0; have e4 := hSw.n0; have e5 := hSw.q0; have e6 := hSw.q1
    go_simp
    try rfl
  simp only [Act.put, List.setIfInBounds_toArray, List.set_cons_zero, List.set_cons_succ]
  refine wpAnyX_take 16 (v := ?_) rfl (by kernel_rfl) (by kernel_rfl) (by kernel_rfl) rfl (by kernel_rfl) (fun _ _ _ h => h) hS (Or.inl ⟨by rfl, fun w hSw => ?_⟩) ?_
  rotate_left
  · have e1 := hSw.c0; have e2 := hSw.c1; have e3 := hSw.p0; have e4 := hSw.n0; have e5 := hSw.q0; have e6 := hSw.q1
    go_simp
    try rfl
  simp only [Act.put, List.setIfInBounds_toArray, List.set_cons_zero, List.set_cons_succ]
  refine wpAnyX_take 17 (v := ?_) rfl (by kernel_rfl) (by kernel_rfl) (by kernel_rfl) rfl (by kernel_rfl) (fun _ _ _ h => h) hS (Or.inl ⟨by rfl, fun w hSw => ?_⟩) ?_
  rotate_left
  · have e1 := hSw.c0; have e2 := hSw.c1; have e3 := hSw.p0; have e4 := hSw.n0; have e5 := hSw.q0; have e6 := hSw.q1
    go_simp
    try rfl
  simp only [Act.put, List.setIfInBounds_toArray, List.set_cons_zero, List.set_cons_succ]
  refine wpAnyX_step 18 (some 26) (.call { callee := .value (.func 12), args := #[.tmp 24, .tmp 25], argTypes := #[9, 89] }) (by kernel_rfl) (by kernel_rfl) (fun o K hd hop hK => ?_)
  refine wp_sprintf_at (.tmp 24) (.tmp 25) hd hop f s vb ?_ ?_ hp hS.v0 ?_
  · simp [Act.eval]
  · simp [Act.eval]
  intro t
  have hS2 : Hd cb pb fb qb vb k cap ao file s L C w1.drew.drew := ⟨d0, d1, dp, dn, q0, q1, dv⟩
  refine hK _ _ (fun _ => hS2) ?_
  clear hK hS hd hop K o
  simp only [Act.put, List.setIfInBounds_toArray, List.set_cons_zero, List.set_cons_succ]
  refine wpAnyX_letter (fun w2 => Hd cb pb fb qb vb k cap ao file s L C w2 ∧ Below w.heap.size w w2 ∧ w2.frozen? ⟨cb, 1, none⟩ = false ∧ w2.ownsRow base 24 1 (.slice ao k cap) k xs ∧ base ≤ w2.heap.size) ⟨hS2, hb.drew.drew, g1, hown1, hbase1⟩ ?_
  clear d0 d1 g1 dp dn dv q0 q1 hown1 hbase1 hb lc lp lf lv lq hS2
  rintro w2 ⟨hS2, hb2, g2, hown2, hbase2⟩
  refine wpAnyX_take 19 (v := ?_) rfl (by kernel_rfl) (by kernel_rfl) (by kernel_rfl) rfl (by kernel_rfl) (fun _ _ _ h => h) hS2 (Or.inl ⟨by rfl, fun w hSw => ?_⟩) ?_
  rotate_left
  · go_simp
    try rfl
  simp only [Act.put, List.setIfInBounds_toArray, List.set_cons_zero, List.set_cons_succ]
  refine wpAnyX_step 20 (some 28) (.box 28 (.tmp 27)) (by kernel_rfl) (by kernel_rfl) (fun o K hd hop hK => ?_)
  refine wp_value (.pointer (some ⟨w2.heap.size, 0, none⟩)) (w' := w2.alloc (.cells #[.string file, .int .i64 L, .int .i64 C, .string t] 28)) hd hop ?_ ?_
  · intro o' ho'
    simp only [execOp, ho']
    go_simp
  refine hK _ _ (fun _ => hS2.alloc _) ?_
  clear hK hd hop K o
  simp only [Act.put, List.setIfInBounds_toArray, List.set_cons_zero, List.set_cons_succ]
  have hw3 := hb2.alloc hb2.size (.cells #[.string file, .int .i64 L, .int .i64 C, .string t] 28)
  refine wpAnyX_step 21 (some 29) (.buildSlice 23 1 #[(0, .tmp 28)]) (by kernel_rfl) (by kernel_rfl) (fun o K hd hop hK => ?_)
  refine wp_value (.slice (some ⟨w2.heap.size + 1, 0, none⟩) 1 1) (w' := (w2.alloc (.cells #[.string file, .int .i64 L, .int .i64 C, .string t] 28)).alloc (.cells #[.pointer (some ⟨w2.heap.size, 0, none⟩)] 24)) hd hop ?_ ?_
  · intro o' ho'
    simp only [execOp, ho']
    go_simp
  refine hK _ _ (fun _ => (hS2.alloc _).alloc _) ?_
  clear hK hd hop K o
  simp only [Act.put, List.setIfInBounds_toArray, List.set_cons_zero, List.set_cons_succ]
  refine wpAnyX_letter (fun w4 => Hd cb pb fb qb vb k cap ao file s L C w4 ∧ Below w.heap.size w w4 ∧ w4.frozen? ⟨cb, 1, none⟩ = false ∧ w4.ownsRow base 24 1 (.slice ao k cap) k xs ∧ base ≤ w4.heap.size ∧
      w4.cell? ⟨w2.heap.size, 0, none⟩ = some (.string file) ∧ w4.cell? ⟨w2.heap.size, 1, none⟩ = some (.int .i64 L) ∧ w4.cell? ⟨w2.heap.size, 2, none⟩ = some (.int .i64 C) ∧ w4.cell? ⟨w2.heap.size + 1, 0, none⟩ = some (.pointer (some ⟨w2.heap.size, 0, none⟩)))
    ⟨(hS2.alloc _).alloc _, ?_, ?_, (hown2.alloc _).alloc _, ?_, ?_, ?_, ?_, ?_⟩ ?_
  · exact (hb2.alloc hb2.size _).alloc (by have := hb2.size; simp; omega) _
  · have h1 := ((Below.refl w2.heap.size w2).alloc (Nat.le_refl _) (.cells #[.string file, .int .i64 L, .int .i64 C, .string t] 28)).alloc (by simp) (.cells #[.pointer (some ⟨w2.heap.size, 0, none⟩)] 24)
    exact (h1.frozen (p := ⟨cb, 1, none⟩) (World.block_lt_of_cell? w2 _ hS2.c1)).trans g2
  · simp; omega
  · simp
  · simp
  · simp
  · simp
  have oe : some w2.heap.size ≠ (Value.slice ao k cap).ownBlock := own_ne_size hown2
  have le := hb2.size
  clear hS2 g2 hown2 hbase2 hb2
  rintro w4 ⟨hS4, hb4, g4, hown4, hbase4, e0, e1, e2, s0⟩
  refine wpAnyX_step 22 (some 30) (.call { callee := .builtin .append, args := #[.tmp 12, .tmp 29], argTypes := #[23, 23] }) (by kernel_rfl) (by kernel_rfl) (fun o K hd hop hK => ?_)
  refine wp_append_at w4 hd (.tmp 12) (.tmp 29) 23 hop base 24 i0 (.pointer none) 1 8 Ybaf.underlying23 hi0 hz0 hz1 hz2 rfl (by omega) (.slice ao k cap) k xs ?_ hown4 ⟨w2.heap.size + 1, 0, none⟩ 1 1 [.pointer (some ⟨w2.heap.size, 0, none⟩)] ?_ rfl ?_ (by simp [Value.oneCell']) (by omega) (by unfold maxLen; omega) (by omega) hbase4 w4.heap.size rfl ?_
  · simp [Act.eval]
  · simp [Act.eval]
  · intro j u hj
    match j, hj with
    | 0, hj => simp at hj; subst hj; simpa [Addr.add] using s0
  intro g cap' w5 hown5 hgrow hat hlt5
  have hS5 := hS4.grown hgrow oc op of oq ov
  refine hK _ _ (fun _ => hS5) ?_
  clear hK hd hop K o
  simp only [Act.put, List.setIfInBounds_toArray, List.set_cons_zero, List.set_cons_succ]
  refine wpAnyX_step 23 (some 31) (.nilCheck (.tmp 8)) (by kernel_rfl) (by kernel_rfl) (fun o K hd hop hK => ?_)
  refine wp_value (.pointer (some ⟨cb, 0, none⟩)) (w' := w5) hd hop ?_ ?_
  · intro o' ho'
    simp only [execOp, ho']
    go_simp
  refine hK _ _ (fun _ => hS5) ?_
  clear hK hd hop K o
  simp only [Act.put, List.setIfInBounds_toArray, List.set_cons_zero, List.set_cons_succ]
  refine wpAnyX_step 24 (some 32) (.fieldAddr 49 (.tmp 31) 1) (by kernel_rfl) (by kernel_rfl) (fun o K hd hop hK => ?_)
  refine wp_value (.pointer (some ⟨cb, 1, none⟩)) (w' := w5) hd hop ?_ ?_
  · intro o' ho'
    simp only [execOp, ho']
    go_simp
  refine hK _ _ (fun _ => hS5) ?_
  clear hK hd hop K o
  simp only [Act.put, List.setIfInBounds_toArray, List.set_cons_zero, List.set_cons_succ]
  have g5 := (hgrow.frozen_far ⟨cb, 1, none⟩ (World.block_lt_of_cell? w4 _ hS4.c1) oc).trans g4
  have c5 := hS5.c1
  refine wpAnyX_step 25 none (.store 23 (.tmp 32) (.tmp 30)) (by kernel_rfl) (by kernel_rfl) (fun o K hd hop hK => ?_)
  refine wp_skip (w' := w5.setCell ⟨cb, 1, none⟩ (.slice (some ⟨g, 0, none⟩) (k + 1) cap')) hd hop ?_ ?_
  · intro o' ho'
    simp only [execOp, ho']
    go_simp
  refine hK _ _ (fun h => absurd rfl h) ?_
  clear hK hd hop K o
  refine wpAnyX_done (by kernel_rfl) ?_ _
  refine NoPanic.normal ?_
  have hgc : g ≠ cb := by
    rcases hat with h | h
    · intro e; rw [e] at h; exact oc h.symm
    · have := hb4.size; omega
  have hlog : Logged w (w5.setCell ⟨cb, 1, none⟩ (.slice (some ⟨g, 0, none⟩) (k + 1) cap')) cb k base (.slice ao k cap) xs file L C g cap' w2.heap.size :=
    Logged.mk' hb4 hgrow hown5 hat hgc lcw le c5 e0 e1 e2 oe
  have cl := hlog.c1
  clear hS4 hS5 hown4 hown5 e0 e1 e2 s0 g4 g5 c5 hgrow hb4 hw3 hat
  go_wp2_with fail
  go_end0
  exact ⟨rfl, g, cap', w2.heap.size, hlog⟩
end Go.Proofs.YbulkaobwFmt
