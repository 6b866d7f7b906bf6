import Derived.Test.YbulkaobwFmtPtrMap
import Derived.Deep.QuietTactic
import Derived.BigQuiet
import Derived.Deep.LoopGhost
import Derived.Deep.DeepCutAuto
namespace Go.Proofs.YbulkaobwFmt
open Go.RowKit
set_option linter.unusedVariables false

theorem info71 : ∃ j, Ybaf.prog.info? 71 = some j ∧ j.size ≠ 0 := by
  have h : (Ybaf.prog.info? 71).map (fun i => decide (i.size ≠ 0)) = some true := by kernel_rfl
  obtain ⟨j, hj, e⟩ := Option.map_eq_some_iff.1 h
  exact ⟨j, hj, of_decide_eq_true e⟩
theorem info76 : ∃ j, Ybaf.prog.info? 76 = some j ∧ j.size ≠ 0 := by
  have h : (Ybaf.prog.info? 76).map (fun i => decide (i.size ≠ 0)) = some true := by kernel_rfl
  obtain ⟨j, hj, e⟩ := Option.map_eq_some_iff.1 h
  exact ⟨j, hj, of_decide_eq_true e⟩
theorem look_same (p t : Nat) (w : World) : (Instr.lookup 95 (.map none) (.agg #[.iface 73 (ptr p), .iface 73 (ptr t)]) false).run Ybaf.prog w = .ok (.bool false) w := by kernel_rfl
theorem asserts (p : Nat) (w : World) : (Instr.typeAssert (.iface 73 (ptr p)) 94 73 true).run Ybaf.prog w = .ok (.tuple #[ptr p, .bool true]) w := by kernel_rfl

theorem neq59 (w : World) {a b : Nat} (ha : IsCells w a) (hb : IsCells w b) : (binOp .neq 59 (.pointer (some ⟨a, 0, none⟩)) (.pointer (some ⟨b, 0, none⟩))).run Ybaf.prog w = .ok (.bool (!(a == b))) w := by
  have h := equal_ptr w ha hb
  unfold ptr at h
  simp only [binOp]
  simp [h]
theorem info73 : ∃ i, Ybaf.prog.info? 73 = some i ∧ i.comparable = true := by
  have h : (Ybaf.prog.info? 73).map (fun i => decide (i.comparable = true)) = some true := by kernel_rfl
  obtain ⟨j, hj, e⟩ := Option.map_eq_some_iff.1 h
  exact ⟨j, hj, of_decide_eq_true e⟩
theorem types_differ (w : World) {p t : Nat} (hp : IsCells w p) (ht : IsCells w t) (hne : p ≠ t) : (binOp .eql 94 (.iface 73 (.pointer (some ⟨p, 0, none⟩))) (.iface 73 (.pointer (some ⟨t, 0, none⟩)))).run Ybaf.prog w = .ok (.bool false) w := by
  obtain ⟨cp, tp, hp⟩ := hp
  obtain ⟨ct, tt, ht⟩ := ht
  obtain ⟨i, hi, hc⟩ := info73
  obtain ⟨j, hj, hz⟩ := info76
  exact run_eql_iface_ptr_other w Ybaf.underlying94 Ybaf.underlying73 hi hc hj hz (fun e => hne (congrArg Addr.block e)) hp ht
theorem look_same' (p t : Nat) (w : World) : (Instr.lookup 95 (.map none) (.agg #[.iface 73 (.pointer (some ⟨p, 0, none⟩)), .iface 73 (.pointer (some ⟨t, 0, none⟩))]) false).run Ybaf.prog w = .ok (.bool false) w := look_same p t w
theorem asserts' (p : Nat) (w : World) : (Instr.typeAssert (.iface 73 (.pointer (some ⟨p, 0, none⟩))) 94 73 true).run Ybaf.prog w = .ok (.tuple #[.pointer (some ⟨p, 0, none⟩), .bool true]) w := asserts p w

theorem IsCells.kept {w w' : World} {k : Nat} {row : Option Nat} (h : IsCells w k) (hg : w.grownBy w' row) (hne : some k ≠ row) : IsCells w' k := by
  obtain ⟨c, t, hb⟩ := h
  have hlt : k < w.heap.size := by
    rcases Nat.lt_or_ge k w.heap.size with h | h
    · exact h
    · rw [Array.getElem?_eq_none h] at hb; cases hb
  exact ⟨c, t, (hg.block k hlt hne).trans hb⟩
theorem IsCells.lt {w : World} {k : Nat} (h : IsCells w k) : k < w.heap.size := by
  obtain ⟨c, t, hb⟩ := h
  rcases Nat.lt_or_ge k w.heap.size with h | h
  · exact h
  · rw [Array.getElem?_eq_none h] at hb; cases hb

/-- Two struct types without type arguments, as Identical reads them. -/
structure Pair (w : World) (p t dp dt : Nat) : Prop where
  ne : p ≠ t
  p0 : w.cell? ⟨p, 0, none⟩ = some (.pointer (some ⟨dp, 0, none⟩))
  p1 : w.cell? ⟨p, 1, none⟩ = some (.slice none 0 0)
  t0 : w.cell? ⟨t, 0, none⟩ = some (.pointer (some ⟨dt, 0, none⟩))
  t1 : w.cell? ⟨t, 1, none⟩ = some (.slice none 0 0)
  cp : IsCells w p
  ct : IsCells w t
  cdp : IsCells w dp
  cdt : IsCells w dt

theorem Pair.kept {w w' : World} {p t dp dt : Nat} (h : Pair w p t dp dt) (hg : w.grownBy w' none) : Pair w' p t dp dt :=
  ⟨h.ne, (hg.cell_far _ h.cp.lt (by simp)).trans h.p0, (hg.cell_far ⟨p, 1, none⟩ h.cp.lt (by simp)).trans h.p1, (hg.cell_far _ h.ct.lt (by simp)).trans h.t0, (hg.cell_far ⟨t, 1, none⟩ h.ct.lt (by simp)).trans h.t1,
    h.cp.kept hg (by simp), h.ct.kept hg (by simp), h.cdp.kept hg (by simp), h.cdt.kept hg (by simp)⟩

/-- The stack of work: one comparison at its head. -/
structure Work (w wx : World) (bb p t : Nat) (d : Bool) : Prop where
  gr : w.grownBy wx none
  le : w.heap.size ≤ bb
  c0 : wx.cell? ⟨bb, 0, none⟩ = some (.iface 73 (.pointer (some ⟨p, 0, none⟩)))
  c1 : wx.cell? ⟨bb, 1, none⟩ = some (.iface 73 (.pointer (some ⟨t, 0, none⟩)))
  c2 : wx.cell? ⟨bb, 2, none⟩ = some (.bool d)
  f0 : wx.frozen? ⟨bb, 0, none⟩ = false
  f1 : wx.frozen? ⟨bb, 1, none⟩ = false
  f2 : wx.frozen? ⟨bb, 2, none⟩ = false

theorem Work.begin (p t : Nat) {w w1 : World} {c : Array Value} (hg : w.grownBy w1 none) (hb : w1.heap[w.heap.size]? = some (.cells c 99 (0, 0))) (h0 : c[0]? = some (.iface 73 (.pointer (some ⟨p, 0, none⟩)))) (h1 : c[1]? = some (.iface 73 (.pointer (some ⟨t, 0, none⟩)))) (h2 : c[2]? = some (.bool false)) (o : Obj) : Work w (w1.alloc o) w.heap.size p t false := by
  have hlt : w.heap.size < w1.heap.size := (Array.getElem?_eq_some_iff.1 hb).1
  have hb' : (w1.alloc o).heap[w.heap.size]? = some (.cells c 99 (0, 0)) := by
    rw [(World.grownBy_alloc w1 o none).block _ hlt (by simp)]; exact hb
  refine ⟨hg.trans (World.grownBy_alloc w1 o none), Nat.le_refl _, ?_, ?_, ?_, ?_, ?_, ?_⟩
  · rw [cell_of_row _ _ _ _ _ _ hb']; exact h0
  · rw [cell_of_row _ _ _ _ _ _ hb']; exact h1
  · rw [cell_of_row _ _ _ _ _ _ hb']; exact h2
  · simp [World.frozen?, hb']
  · simp [World.frozen?, hb']
  · simp [World.frozen?, hb']
theorem Work.alloc {w wx : World} {bb p t : Nat} {d : Bool} (h : Work w wx bb p t d) (o : Obj) : Work w (wx.alloc o) bb p t d := by
  have hg := World.grownBy_alloc wx o none
  have hb : bb < wx.heap.size := World.block_lt_of_cell? wx _ h.c0
  exact ⟨h.gr.trans hg, h.le, (hg.cell_far _ hb (by simp)).trans h.c0, (hg.cell_far ⟨bb, 1, none⟩ hb (by simp)).trans h.c1, (hg.cell_far ⟨bb, 2, none⟩ hb (by simp)).trans h.c2,
    (hg.frozen_far _ hb (by simp)).trans h.f0, (hg.frozen_far ⟨bb, 1, none⟩ hb (by simp)).trans h.f1, (hg.frozen_far ⟨bb, 2, none⟩ hb (by simp)).trans h.f2⟩
/-- The comparison in hand. -/
structure Top (w : World) (cb p t : Nat) (d : Bool) : Prop where
  k0 : w.cell? ⟨cb, 0, none⟩ = some (.iface 73 (.pointer (some ⟨p, 0, none⟩)))
  k1 : w.cell? ⟨cb, 1, none⟩ = some (.iface 73 (.pointer (some ⟨t, 0, none⟩)))
  k2 : w.cell? ⟨cb, 2, none⟩ = some (.bool d)
theorem Top.mk' (w : World) (p t : Nat) (d : Bool) : Top (w.alloc (.cells #[.iface 73 (.pointer (some ⟨p, 0, none⟩)), .iface 73 (.pointer (some ⟨t, 0, none⟩)), .bool d] 98)) w.heap.size p t d := by
  refine ⟨?_, ?_, ?_⟩ <;> simp
theorem grownBy_drewN {a b : World} {row : Option Nat} (h : a.grownBy b row) (n : Nat) : a.grownBy (b.drewN n) row := ⟨h.os, h.tape, h.output, h.size, h.block⟩
theorem Pair.drewN {w : World} {p t dp dt : Nat} (hP : Pair w p t dp dt) (n : Nat) : Pair (w.drewN n) p t dp dt := ⟨hP.ne, hP.p0, hP.p1, hP.t0, hP.t1, hP.cp, hP.ct, hP.cdp, hP.cdt⟩
theorem Work.drewN {w wx : World} {bb p t : Nat} {d : Bool} (hV : Work w wx bb p t d) (n : Nat) : Work w (wx.drewN n) bb p t d := ⟨grownBy_drewN hV.gr n, hV.le, hV.c0, hV.c1, hV.c2, hV.f0, hV.f1, hV.f2⟩
theorem Top.drewN {w : World} {cb p t : Nat} {d : Bool} (h : Top w cb p t d) (n : Nat) : Top (w.drewN n) cb p t d := ⟨h.k0, h.k1, h.k2⟩

theorem grownBy_setCell (w : World) (a : Addr) (v : Value) : w.grownBy (w.setCell a v) (some a.block) :=
  ⟨rfl, rfl, rfl, by simp [World.setCell], fun b _ hne => Below.heap_setCell _ _ _ _ (fun e => hne (by rw [e]))⟩
theorem grownBy_setNew {w wx : World} (h : w.grownBy wx none) (a : Addr) (v : Value) (hle : w.heap.size ≤ a.block) : w.grownBy (wx.setCell a v) none :=
  ⟨h.os, h.tape, h.output, Nat.le_trans h.size (by simp [World.setCell]), fun b hb hne => (Below.heap_setCell _ _ _ _ (by omega)).trans (h.block b hb hne)⟩
theorem cell_set_off {w : World} {b i j : Nat} {u v : Value} (h : w.cell? ⟨b, j, none⟩ = some u) (hne : i ≠ j) : (w.setCell ⟨b, i, none⟩ v).cell? ⟨b, j, none⟩ = some u :=
  (World.cell?_setCell_other (w := w) (a := ⟨b, i, none⟩) (b := ⟨b, j, none⟩) (v := v) (h := fun e => hne (congrArg Addr.off e))).trans h
theorem Work.pushed {w wx : World} {bb p t : Nat} {d : Bool} (h : Work w wx bb p t d) : Work w (((wx.setCell ⟨bb, 0, none⟩ (.iface 73 (.pointer (some ⟨p, 0, none⟩)))).setCell ⟨bb, 1, none⟩ (.iface 73 (.pointer (some ⟨t, 0, none⟩)))).setCell ⟨bb, 2, none⟩ (.bool true)) bb p t true := by
  refine ⟨grownBy_setNew (grownBy_setNew (grownBy_setNew h.gr _ _ h.le) _ _ h.le) _ _ h.le, h.le, ?_, ?_, ?_, ?_, ?_, ?_⟩
  · exact cell_set_off (cell_set_off (cell_set_same h.c0) (by omega)) (by omega)
  · exact cell_set_off (cell_set_same (cell_set_off h.c1 (by omega))) (by omega)
  · exact cell_set_same (cell_set_off (cell_set_off h.c2 (by omega)) (by omega))
  · simpa using h.f0
  · simpa using h.f1
  · simpa using h.f2

set_option maxHeartbeats 1000000 in
set_option maxRecDepth 100000 in
theorem ident_any (p t dp dt : Nat) (w : World) (h : Pair w p t dp dt) :
    Calls Ybaf.prog 10 #[.iface 73 (.pointer (some ⟨p, 0, none⟩)), .iface 73 (.pointer (some ⟨t, 0, none⟩))] w fun e w' => (∃ b, e = .returned (.bool b)) ∧ w.grownBy w' none := by
  go_enter Ybaf.func10, Ybaf.ntmps10
  go_upto_region 5 with fail
  go_loopg [5, 6, 8] 2 (fun q s5 s6 s8 wx => ∃ bb, s6 = .map none ∧ ((q = 2 ∧ s5 = .int .i64 0 ∧ s8 = .slice (some ⟨bb, 0, none⟩) 1 16 ∧ Work w wx bb p t false) ∨ (q = 1 ∧ s5 = .int .i64 1 ∧ s8 = .slice (some ⟨bb, 0, none⟩) 1 16 ∧ Work w wx bb p t true) ∨ (q = 0 ∧ s5 = .int .i64 1 ∧ s8 = .slice (some ⟨bb, 0, none⟩) 0 16 ∧ w.grownBy wx none)))
  case atStart =>
    refine ⟨w.heap.size, rfl, Or.inl ⟨rfl, rfl, rfl, ?_⟩⟩
    have hA := World.grownBy_alloc w (.cells #[.iface 73 (.pointer (some ⟨p, 0, none⟩)), .iface 73 (.pointer (some ⟨t, 0, none⟩)), .bool false, .nilIface, .nilIface, .bool false, .nilIface, .nilIface, .bool false, .nilIface, .nilIface, .bool false, .nilIface, .nilIface, .bool false, .nilIface, .nilIface, .bool false, .nilIface, .nilIface, .bool false, .nilIface, .nilIface, .bool false, .nilIface, .nilIface, .bool false, .nilIface, .nilIface, .bool false, .nilIface, .nilIface, .bool false, .nilIface, .nilIface, .bool false, .nilIface, .nilIface, .bool false, .nilIface, .nilIface, .bool false, .nilIface, .nilIface, .bool false, .nilIface, .nilIface, .bool false] 99) none
    have hB := Go.Deep.blk_alloc_new w (.cells #[.iface 73 (.pointer (some ⟨p, 0, none⟩)), .iface 73 (.pointer (some ⟨t, 0, none⟩)), .bool false, .nilIface, .nilIface, .bool false, .nilIface, .nilIface, .bool false, .nilIface, .nilIface, .bool false, .nilIface, .nilIface, .bool false, .nilIface, .nilIface, .bool false, .nilIface, .nilIface, .bool false, .nilIface, .nilIface, .bool false, .nilIface, .nilIface, .bool false, .nilIface, .nilIface, .bool false, .nilIface, .nilIface, .bool false, .nilIface, .nilIface, .bool false, .nilIface, .nilIface, .bool false, .nilIface, .nilIface, .bool false, .nilIface, .nilIface, .bool false, .nilIface, .nilIface, .bool false] 99)
    exact Work.begin p t hA hB rfl rfl rfl _
  case round =>
    obtain ⟨bb, rfl, ⟨hq, rfl, rfl, hW⟩ | ⟨hq, rfl, rfl, hW⟩ | ⟨hq, rfl, rfl, hW⟩⟩ := hrel
    · have c0 := hW.c0
      have c1 := hW.c1
      have c2 := hW.c2
      have hb : bb < wr.heap.size := World.block_lt_of_cell? wr _ c0
      go_upto_region 8 with fail
      have hP := (h.kept hW.gr).kept (World.grownBy_alloc wr (.cells #[.iface 73 (.pointer (some ⟨p, 0, none⟩)), .iface 73 (.pointer (some ⟨t, 0, none⟩)), .bool false] 98) none)
      have hV := hW.alloc (.cells #[.iface 73 (.pointer (some ⟨p, 0, none⟩)), .iface 73 (.pointer (some ⟨t, 0, none⟩)), .bool false] 98)
      have hC := Top.mk' wr p t false
      generalize wr.alloc (.cells #[.iface 73 (.pointer (some ⟨p, 0, none⟩)), .iface 73 (.pointer (some ⟨t, 0, none⟩)), .bool false] 98) = W1 at hP hV hC ⊢
      generalize wr.heap.size = cb at hC hb ⊢
      clear c0 c1 c2 hW hb
      have k0 := hC.k0
      have k1 := hC.k1
      have k2 := hC.k2
      go_quiet (fail)
      have hP2 := hP.drewN nq
      have hV2 := hV.drewN nq
      have hC2 := hC.drewN nq
      generalize W1.drewN nq = W2 at hP2 hV2 hC2 ⊢
      clear k0 k1 k2 hP hV hC
      have hd := types_differ W2 hP2.cp hP2.ct hP2.ne
      have as1 := asserts'
      have k2 := hC2.k2
      go_upto_region 22 with fail
      have p0 := hP2.p0
      have p1 := hP2.p1
      have t0 := hP2.t0
      have t1 := hP2.t1
      by_cases he : dp = dt
      · subst he
        have hn : ∀ q, (binOp .neq 59 (.pointer (some ⟨dp, 0, none⟩)) (.pointer (some ⟨dp, 0, none⟩))).run Ybaf.prog (W2.drewN q) = .ok (.bool false) (W2.drewN q) := fun q => by
          rw [neq59 (W2.drewN q) (hP2.drewN q).cdp (hP2.drewN q).cdt]; simp
        go_quiet (fail)
        have hP3 := hP2.drewN nq
        have hV3 := hV2.drewN nq
        have hC3 := hC2.drewN nq
        generalize W2.drewN nq = W3 at hP3 hV3 hC3 ⊢
        clear p0 p1 t0 t1 hP2 hV2 hC2 hn hd k2
        have p1 := hP3.p1
        have t1 := hP3.t1
        go_wp2_with fail
        go_quiet (fail)
        have hP4 := hP3.drewN nq
        have hV4 := hV3.drewN nq
        have hC4 := hC3.drewN nq
        generalize W3.drewN nq = W4 at hP4 hV4 hC4 ⊢
        clear p1 t1 hP3 hV3 hC3 as1
        have k0 := hC4.k0
        have k1 := hC4.k1
        have k2 := hC4.k2
        have c0 := hV4.c0
        have c1 := hV4.c1
        have c2 := hV4.c2
        have f0 := hV4.f0
        have f1 := hV4.f1
        have f2 := hV4.f2
        have hV5 := hV4.alloc (.cells #[.iface 73 (.pointer (some ⟨p, 0, none⟩)), .iface 73 (.pointer (some ⟨t, 0, none⟩)), .bool true] 98)
        have hX := hV5.pushed
        have x0 := hV5.c0
        have x1 := hV5.c1
        have x2 := hV5.c2
        have y0 := hV5.f0
        have y1 := hV5.f1
        have y2 := hV5.f2
        have ls := look_same'
        go_upto_region 36 with fail
        clear x0 x1 x2 y0 y1 y2 c0 c1 c2 f0 f1 f2 k0 k1 k2 ls hV5
        generalize ((((W4.alloc (.cells #[.iface 73 (.pointer (some ⟨p, 0, none⟩)), .iface 73 (.pointer (some ⟨t, 0, none⟩)), .bool true] 98)).setCell ⟨bb, 0, none⟩ (.iface 73 (.pointer (some ⟨p, 0, none⟩)))).setCell ⟨bb, 1, none⟩ (.iface 73 (.pointer (some ⟨t, 0, none⟩)))).setCell ⟨bb, 2, none⟩ (.bool true)) = W5 at hX ⊢
        obtain ⟨G, hG⟩ : ∃ G, G = gk := ⟨gk, rfl⟩
        go_upto_region 37 with fail
        go_loopg [8, 21] 0 (fun q s8 s21 wx => s8 = .slice (some ⟨bb, 0, none⟩) 1 16 ∧ s21 = .int .i64 (-1) ∧ wx = W5)
        case atStart => exact ⟨rfl, rfl, rfl⟩
        case round =>
          obtain ⟨rfl, rfl, rfl⟩ := hrel
          go_wp2_with fail
          go_roundg (G - 1)
          case measure => omega
          case rel => exact ⟨bb, rfl, Or.inr (Or.inl ⟨by omega, rfl, rfl, hX⟩)⟩
      · have hn : ∀ q, (binOp .neq 59 (.pointer (some ⟨dp, 0, none⟩)) (.pointer (some ⟨dt, 0, none⟩))).run Ybaf.prog (W2.drewN q) = .ok (.bool true) (W2.drewN q) := fun q => by
          rw [neq59 (W2.drewN q) (hP2.drewN q).cdp (hP2.drewN q).cdt]; simp [he]
        go_quiet (fail)
        go_wp2_with fail
        go_ret
        exact ⟨⟨_, rfl⟩, (hV2.drewN nq).gr⟩
    · have c0 := hW.c0
      have c1 := hW.c1
      have c2 := hW.c2
      have hb : bb < wr.heap.size := World.block_lt_of_cell? wr _ c0
      go_upto_region 8 with fail
      have hV := hW.alloc (.cells #[.iface 73 (.pointer (some ⟨p, 0, none⟩)), .iface 73 (.pointer (some ⟨t, 0, none⟩)), .bool true] 98)
      have hC := Top.mk' wr p t true
      generalize wr.alloc (.cells #[.iface 73 (.pointer (some ⟨p, 0, none⟩)), .iface 73 (.pointer (some ⟨t, 0, none⟩)), .bool true] 98) = W1 at hV hC ⊢
      generalize wr.heap.size = cb at hC hb ⊢
      clear c0 c1 c2 hW hb
      have k0 := hC.k0
      have k1 := hC.k1
      have k2 := hC.k2
      go_quiet (fail)
      have hV2 := hV.drewN nq
      have hC2 := hC.drewN nq
      generalize W1.drewN nq = W2 at hV2 hC2 ⊢
      clear k0 k1 k2 hV hC
      have k2 := hC2.k2
      go_wp2_with fail
      go_roundg (gk - 1)
      case measure => omega
      case rel => exact ⟨bb, rfl, Or.inr (Or.inr ⟨by omega, rfl, rfl, hV2.gr⟩)⟩
    · go_wp2_with fail
      go_ret
      exact ⟨⟨_, rfl⟩, hW⟩
end Go.Proofs.YbulkaobwFmt
