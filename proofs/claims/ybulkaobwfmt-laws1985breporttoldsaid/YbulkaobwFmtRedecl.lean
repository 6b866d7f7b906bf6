import Derived.Test.YbulkaobwFmtErrorf
namespace Go.Proofs.YbulkaobwFmt
open Go.RowKit
set_option linter.unusedVariables false

/-- What redeclaresPredeclared reads: the two tables' variables, what they answer, the name, the checker. -/
structure Asks (w : World) (cb pb fb nb m1 m2 k cap base : Nat) (ao : Option Addr) (xs : List Value) (s file : ByteArray) (L C : Int) (b1 b2 : Bool) : Prop where
  g0 : w.cell? ⟨0, 0, none⟩ = some (.map (some m1))
  g1 : w.cell? ⟨1, 0, none⟩ = some (.map (some m2))
  l1 : ∀ q, (Instr.lookup 78 (.map (some m1)) (.string s) false).run Ybaf.prog (w.drewN q) = .ok (.bool b1) (w.drewN q)
  l2 : ∀ q, (Instr.lookup 78 (.map (some m2)) (.string s) false).run Ybaf.prog (w.drewN q) = .ok (.bool b2) (w.drewN q)
  n0 : w.cell? ⟨nb, 0, none⟩ = some (.int .i64 L)
  n1 : w.cell? ⟨nb, 1, none⟩ = some (.int .i64 C)
  n2 : w.cell? ⟨nb, 2, none⟩ = some (.string s)
  c0 : w.cell? ⟨cb, 0, none⟩ = some (.pointer (some ⟨pb, 0, none⟩))
  c1 : w.cell? ⟨cb, 1, none⟩ = some (.slice ao k cap)
  f1 : w.frozen? ⟨cb, 1, none⟩ = false
  p0 : w.cell? ⟨pb, 0, none⟩ = some (.pointer (some ⟨fb, 0, none⟩))
  fl : w.cell? ⟨fb, 0, none⟩ = some (.string file)
  own : w.ownsRow base 24 1 (.slice ao k cap) k xs
  hbase : base ≤ w.heap.size
  oc : some cb ≠ (Value.slice ao k cap).ownBlock
  op : some pb ≠ (Value.slice ao k cap).ownBlock
  of : some fb ≠ (Value.slice ao k cap).ownBlock
  on : some nb ≠ (Value.slice ao k cap).ownBlock
  nc : nb ≠ cb

set_option maxHeartbeats 400000 in
theorem redecl_no {w : World} {cb pb fb nb m1 m2 k cap base : Nat} {ao : Option Addr} {xs : List Value} {s file : ByteArray} {L C : Int} (h : Asks w cb pb fb nb m1 m2 k cap base ao xs s file L C false false) :
    Calls Ybaf.prog 6 #[.pointer (some ⟨cb, 0, none⟩), .pointer (some ⟨nb, 0, none⟩)] w fun e w' => e = .returned (.bool false) ∧ ∃ q, w' = w.drewN q := by
  have g0 := h.g0
  have g1 := h.g1
  have l1 := h.l1
  have l2 := h.l2
  have n2 := h.n2
  clear h
  go_enter Ybaf.func6, Ybaf.ntmps6
  go_wp2_with fail
  go_quiet (fail)
  go_wp2_with fail
  go_ret
  exact ⟨rfl, _, rfl⟩

theorem Logged.of_below {w w1 w' : World} {cb k base : Nat} {v : Value} {xs : List Value} {file : ByteArray} {L C : Int} {g cap eb : Nat} (hb : Below w.heap.size w w1) (h : Logged w1 w' cb k base v xs file L C g cap eb) : Logged w w' cb k base v xs file L C g cap eb :=
  ⟨h.c1, h.own, h.e0, h.e1, h.e2, h.lies.elim Or.inl (fun g => Or.inr (Nat.le_trans hb.size g)), Nat.le_trans hb.size h.eN, h.os.trans hb.os, h.tape.trans hb.tape, h.output.trans hb.output, Nat.le_trans hb.size h.size,
    fun b hb' h1 h2 => (h.block b (Nat.lt_of_lt_of_le hb' hb.size) h1 h2).trans (hb.block b hb')⟩

theorem Asks.drewN {w : World} {cb pb fb nb m1 m2 k cap base : Nat} {ao : Option Addr} {xs : List Value} {s file : ByteArray} {L C : Int} {b1 b2 : Bool} (h : Asks w cb pb fb nb m1 m2 k cap base ao xs s file L C b1 b2) (n : Nat) : Asks (w.drewN n) cb pb fb nb m1 m2 k cap base ao xs s file L C b1 b2 :=
  ⟨h.g0, h.g1, fun q => by rw [World.drewN_drewN]; exact h.l1 _, fun q => by rw [World.drewN_drewN]; exact h.l2 _, h.n0, h.n1, h.n2, h.c0, h.c1, h.f1, h.p0, h.fl, h.own, h.hbase, h.oc, h.op, h.of, h.on, h.nc⟩

/-- The call of errorf, behind the variadic slice's block. -/
theorem errorf_behind {w : World} {cb pb fb nb m1 m2 k cap base : Nat} {ao : Option Addr} {xs : List Value} {s file : ByteArray} {L C : Int} {b1 b2 : Bool} (h : Asks w cb pb fb nb m1 m2 k cap base ao xs s file L C b1 b2) (hk : k ≤ 8) :
    Calls Ybaf.prog 9 #[.pointer (some ⟨cb, 0, none⟩), .agg #[.int .i64 L, .int .i64 C], .string ⟨#[114, 101, 100, 101, 99, 108, 97, 114, 105, 110, 103, 32, 116, 104, 101, 32, 112, 114, 101, 100, 101, 99, 108, 97, 114, 101, 100, 32, 105, 100, 101, 110, 116, 105, 102, 105, 101, 114, 32, 37, 115, 32, 105, 115, 32, 110, 111, 116, 32, 115, 117, 112, 112, 111, 114, 116, 101, 100]⟩, .slice (some ⟨w.heap.size, 0, none⟩) 1 1]
      (w.alloc (.cells #[.iface 9 (.string s)] 20)).drew fun e w' => e = .returned (.tuple #[]) ∧ ∃ g cap' eb, Logged w w' cb k base (.slice ao k cap) xs file L C g cap' eb := by
  have hb : Below w.heap.size w (w.alloc (.cells #[.iface 9 (.string s)] 20)).drew := ((Below.refl _ _).alloc (Nat.le_refl _) _).drew
  have lc := World.block_lt_of_cell? w _ h.c0
  have lp := World.block_lt_of_cell? w _ h.p0
  have lf := World.block_lt_of_cell? w _ h.fl
  have v0 : (w.alloc (.cells #[.iface 9 (.string s)] 20)).drew.cell? ⟨w.heap.size, 0, none⟩ = some (.iface 9 (.string s)) := by simp
  have hz : base ≤ (w.alloc (.cells #[.iface 9 (.string s)] 20)).drew.heap.size := by have := h.hbase; simp; omega
  refine (errorf_any cb pb fb w.heap.size base k cap ao xs L C _ s file _ Ybaf.fmt0 hk ((hb.cell lc).trans h.c0) ((hb.cell (p := ⟨cb, 1, none⟩) lc).trans h.c1) ((hb.frozen (p := ⟨cb, 1, none⟩) lc).trans h.f1) ((hb.cell lp).trans h.p0) ((hb.cell lf).trans h.fl) v0 (h.own.alloc _).drew hz h.oc h.op h.of (own_ne_size h.own)).mono ?_
  rintro e w' ⟨rfl, g, cap', eb, hl⟩
  exact ⟨rfl, g, cap', eb, hl.of_below hb⟩

theorem Logged.keeps {w w' : World} {cb k base : Nat} {v : Value} {xs : List Value} {file : ByteArray} {L C : Int} {g cap eb : Nat} (h : Logged w w' cb k base v xs file L C g cap eb) {nb j : Nat} {u : Value} (hc : w.cell? ⟨nb, j, none⟩ = some u) (n1 : nb ≠ cb) (n2 : some nb ≠ v.ownBlock) : w'.cell? ⟨nb, j, none⟩ = some u :=
  (World.cell?_of_block (w := w) (a := ⟨nb, j, none⟩) (h.block nb (World.block_lt_of_cell? w _ hc) n1 n2)).trans hc

set_option maxHeartbeats 400000 in
/-- The report itself. -/
theorem redecl_yes {w : World} {cb pb fb nb m1 m2 k cap base : Nat} {ao : Option Addr} {xs : List Value} {s file : ByteArray} {L C : Int} {b1 b2 : Bool} (h : Asks w cb pb fb nb m1 m2 k cap base ao xs s file L C b1 b2) (hk : k ≤ 8) (hb : (b1 || b2) = true) :
    Calls Ybaf.prog 6 #[.pointer (some ⟨cb, 0, none⟩), .pointer (some ⟨nb, 0, none⟩)] w fun e w' => e = .returned (.bool true) ∧ ∃ g cap' eb, Logged w w' cb k base (.slice ao k cap) xs file L C g cap' eb := by
  have g0 := h.g0
  have g1 := h.g1
  have l1 := h.l1
  have l2 := h.l2
  have n0 := h.n0
  have n1 := h.n1
  have n2 := h.n2
  cases b1
  · obtain rfl : b2 = true := by simpa using hb
    go_enter Ybaf.func6, Ybaf.ntmps6
    go_wp2_with fail
    go_quiet (fail)
    go_wp2_with fail
    have hq := h.drewN nq
    have hbq : Below w.heap.size w (w.drewN nq) := ⟨rfl, rfl, rfl, Nat.le_refl _, fun _ _ => rfl⟩
    generalize w.drewN nq = wq at hq hbq ⊢
    clear g0 g1 l1 l2 n0 n1 n2 h
    have n0 := hq.n0
    have n1 := hq.n1
    have n2 := hq.n2
    have hba := (Below.refl wq.heap.size wq).alloc (Nat.le_refl _) (.cells #[.iface 9 (.string s)] 20)
    have ln := World.block_lt_of_cell? wq _ n0
    have a0 := (hba.cell (p := ⟨nb, 0, none⟩) ln).trans n0
    have a1 := (hba.cell (p := ⟨nb, 1, none⟩) ln).trans n1
    have a2 := (hba.cell (p := ⟨nb, 2, none⟩) ln).trans n2
    clear hba
    go_region_held3 (fun w' => w'.cell? ⟨nb, 0, none⟩ = some (.int .i64 L) ∧ w'.cell? ⟨nb, 1, none⟩ = some (.int .i64 C) ∧ w'.cell? ⟨nb, 2, none⟩ = some (.string s))
      (first | exact ⟨n0, n1, n2⟩ | exact ⟨a0, a1, a2⟩ | exact ⟨hlog.keeps n0 hq.nc hq.on, hlog.keeps n1 hq.nc hq.on, hlog.keeps n2 hq.nc hq.on⟩)
      (first | (go_at_call 9; refine (errorf_behind hq hk).mono ?_; rintro e w' ⟨rfl, g, cap', eb, hlog⟩))
    go_wp2_with fail
    go_ret
    exact ⟨rfl, g, cap', eb, hlog.of_below hbq⟩
  · go_enter Ybaf.func6, Ybaf.ntmps6
    go_wp2_with fail
    go_quiet (fail)
    go_wp2_with fail
    have hq := h.drewN nq
    have hbq : Below w.heap.size w (w.drewN nq) := ⟨rfl, rfl, rfl, Nat.le_refl _, fun _ _ => rfl⟩
    generalize w.drewN nq = wq at hq hbq ⊢
    clear g0 g1 l1 l2 n0 n1 n2 h
    have n0 := hq.n0
    have n1 := hq.n1
    have n2 := hq.n2
    have hba := (Below.refl wq.heap.size wq).alloc (Nat.le_refl _) (.cells #[.iface 9 (.string s)] 20)
    have ln := World.block_lt_of_cell? wq _ n0
    have a0 := (hba.cell (p := ⟨nb, 0, none⟩) ln).trans n0
    have a1 := (hba.cell (p := ⟨nb, 1, none⟩) ln).trans n1
    have a2 := (hba.cell (p := ⟨nb, 2, none⟩) ln).trans n2
    clear hba
    go_region_held3 (fun w' => w'.cell? ⟨nb, 0, none⟩ = some (.int .i64 L) ∧ w'.cell? ⟨nb, 1, none⟩ = some (.int .i64 C) ∧ w'.cell? ⟨nb, 2, none⟩ = some (.string s))
      (first | exact ⟨n0, n1, n2⟩ | exact ⟨a0, a1, a2⟩ | exact ⟨hlog.keeps n0 hq.nc hq.on, hlog.keeps n1 hq.nc hq.on, hlog.keeps n2 hq.nc hq.on⟩)
      (first | (go_at_call 9; refine (errorf_behind hq hk).mono ?_; rintro e w' ⟨rfl, g, cap', eb, hlog⟩))
    go_wp2_with fail
    go_ret
    exact ⟨rfl, g, cap', eb, hlog.of_below hbq⟩
end Go.Proofs.YbulkaobwFmt
