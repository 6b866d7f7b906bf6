import Derived.Test.YbulkaobwFmtCycle
import Derived.Test.YbulkaobwFmtRedecl
namespace Go.Proofs.YbulkaobwFmt
open Go.RowKit Go.Extern.Stop Go.Stop Go.Extern
set_option linter.unusedVariables false
set_option linter.unusedSimpArgs false

theorem Ybaf.info59 : (Ybaf.prog.info? 59).map (fun i => (i.zero, i.size, i.bytes)) = some (some (.pointer none), 1, 8) := by kernel_rfl
-- "invalid recursive type %s"
theorem Ybaf.fmt1 : FmtStop.printed? ⟨#[105, 110, 118, 97, 108, 105, 100, 32, 114, 101, 99, 117, 114, 115, 105, 118, 101, 32, 116, 121, 112, 101, 32, 37, 115]⟩ 1 = some [(0, 115, false)] := by kernel_rfl

theorem PMap.ne {w : World} {mb : Nat} {ks : List Nat} (h : PMap w mb ks) {b j : Nat} {v : Value} (hc : w.cell? ⟨b, j, none⟩ = some v) : some b ≠ some mb := by
  intro e
  obtain rfl := Option.some.inj e
  obtain ⟨es, clock, hb, _⟩ := h
  simp [World.cell?, hb] at hc
theorem PMap.neC {w : World} {mb : Nat} {ks : List Nat} (h : PMap w mb ks) {b : Nat} (hc : IsCells w b) : some b ≠ some mb := by
  intro e
  obtain rfl := Option.some.inj e
  obtain ⟨es, clock, hb, _⟩ := h
  obtain ⟨c, t, hc⟩ := hc
  rw [hb] at hc
  cases hc

theorem PMap.lt {w : World} {mb : Nat} {ks : List Nat} (h : PMap w mb ks) : mb < w.heap.size := by
  obtain ⟨es, clock, hb, _⟩ := h
  exact (Array.getElem?_eq_some_iff.1 hb).1

theorem grown_of_below {w w' : World} (h : Below w.heap.size w w') : w.grownBy w' none := ⟨h.os, h.tape, h.output, h.size, fun b hb _ => h.block b hb⟩
theorem below_of_grown {w w' : World} (h : w.grownBy w' none) : Below w.heap.size w w' := ⟨h.os, h.tape, h.output, h.size, fun b hb => h.block b hb (by simp)⟩

/-- The path: pointers to struct types without type arguments, none of them tb. -/
def OnPath (w : World) (tb : Nat) (pa : Option Addr) (M : Nat) : Prop :=
  ∀ j, j < M → ∃ g p dp, pa = some ⟨g, 0, none⟩ ∧ w.cell? ⟨g, j, none⟩ = some (.pointer (some ⟨p, 0, none⟩)) ∧ p ≠ tb ∧ w.cell? ⟨p, 0, none⟩ = some (.pointer (some ⟨dp, 0, none⟩)) ∧ w.cell? ⟨p, 1, none⟩ = some (.slice none 0 0) ∧ IsCells w p ∧ Named w dp

/-- What report reads. -/
structure Rep (w : World) (wb tb dt sb nb cb pb fb mb k cap base : Nat) (ao : Option Addr) (ks : List Nat) (xs : List Value) (file : ByteArray) (L C : Int) (pa : Option Addr) (M : Nat) : Prop where
  w0 : w.cell? ⟨wb, 0, none⟩ = some (.pointer (some ⟨cb, 0, none⟩))
  w2 : w.cell? ⟨wb, 2, none⟩ = some (.map (some mb))
  map : PMap w mb ks
  keys : ∀ x ∈ ks, IsCells w x
  t0 : w.cell? ⟨tb, 0, none⟩ = some (.pointer (some ⟨dt, 0, none⟩))
  t1 : w.cell? ⟨tb, 1, none⟩ = some (.slice none 0 0)
  tc : IsCells w tb
  dn : Named w dt
  d1 : w.cell? ⟨dt, 1, none⟩ = some (.pointer (some ⟨sb, 0, none⟩))
  s0 : w.cell? ⟨sb, 0, none⟩ = some (.pointer (some ⟨nb, 0, none⟩))
  n0 : w.cell? ⟨nb, 0, none⟩ = some (.int .i64 L)
  n1 : w.cell? ⟨nb, 1, none⟩ = some (.int .i64 C)
  path : OnPath w tb pa M
  c0 : w.cell? ⟨cb, 0, none⟩ = some (.pointer (some ⟨pb, 0, none⟩))
  c1 : w.cell? ⟨cb, 1, none⟩ = some (.slice ao k cap)
  f1 : w.frozen? ⟨cb, 1, none⟩ = false
  p0 : w.cell? ⟨pb, 0, none⟩ = some (.pointer (some ⟨fb, 0, none⟩))
  fl : w.cell? ⟨fb, 0, none⟩ = some (.string file)
  own : w.ownsRow base 24 1 (.slice ao k cap) k xs
  hbase : base ≤ w.heap.size

/-- What lies apart. -/
structure Apart (wb tb dt sb nb cb pb fb : Nat) (v : Value) : Prop where
  cc : ∀ b ∈ [wb, tb, dt, sb, nb], b ≠ cb
  oo : ∀ b ∈ [wb, tb, dt, sb, nb, cb, pb, fb], some b ≠ v.ownBlock

theorem Named.kept {w w' : World} {b : Nat} {row : Option Nat} (h : Named w b) (hg : w.grownBy w' row) (hne : some b ≠ row) : Named w' b :=
  ⟨h.cells.kept hg hne, (hg.cell_far _ h.cells.lt hne).trans h.name⟩

theorem ownsRow_kept {w w' : World} {base e size n : Nat} {v : Value} {xs : List Value} {row : Option Nat} (h : w.ownsRow base e size v n xs) (hg : w.grownBy w' row) (hne : ∀ g c t f, w.heap[g]? = some (.cells c t f) → some g ≠ row) : w'.ownsRow base e size v n xs := by
  obtain ⟨h1, h | ⟨g, cap, cur, hv, hg0, hh, r⟩⟩ := h
  · exact ⟨h1, Or.inl h⟩
  · exact ⟨h1, Or.inr ⟨g, cap, cur, hv, hg0, (hg.block g (Array.getElem?_eq_some_iff.1 hh).1 (hne _ _ _ _ hh)).trans hh, r⟩⟩

theorem Rep.kept {w w' : World} {wb tb dt sb nb cb pb fb mb k cap base : Nat} {ao : Option Addr} {ks ks' : List Nat} {xs : List Value} {file : ByteArray} {L C : Int} {pa : Option Addr} {M : Nat}
    (h : Rep w wb tb dt sb nb cb pb fb mb k cap base ao ks xs file L C pa M) (hg : w.grownBy w' (some mb)) (hm : PMap w' mb ks') (hk : ∀ x ∈ ks', IsCells w x) : Rep w' wb tb dt sb nb cb pb fb mb k cap base ao ks' xs file L C pa M := by
  have hc : ∀ {b j : Nat} {v : Value}, w.cell? ⟨b, j, none⟩ = some v → w'.cell? ⟨b, j, none⟩ = some v := fun {b j v} hc => (hg.cell_far ⟨b, j, none⟩ (World.block_lt_of_cell? w _ hc) (h.map.ne hc)).trans hc
  refine ⟨hc h.w0, hc h.w2, hm, fun x hx => (hk x hx).kept hg (h.map.neC (hk x hx)), hc h.t0, hc h.t1, h.tc.kept hg (h.map.neC h.tc), h.dn.kept hg (h.map.neC h.dn.cells), hc h.d1, hc h.s0, hc h.n0, hc h.n1, ?_, hc h.c0, hc h.c1,
    (hg.frozen_far ⟨cb, 1, none⟩ (World.block_lt_of_cell? w _ h.c1) (h.map.ne h.c1)).trans h.f1, hc h.p0, hc h.fl, ownsRow_kept h.own hg ?_, Nat.le_trans h.hbase hg.size⟩
  · intro j hj
    obtain ⟨g, p, dp, e, q1, q2, q3, q4, q5, q6⟩ := h.path j hj
    exact ⟨g, p, dp, e, hc q1, q2, hc q3, hc q4, q5.kept hg (h.map.neC q5), q6.kept hg (h.map.neC q6.cells)⟩
  · intro g c t f hh e
    obtain rfl := Option.some.inj e
    obtain ⟨es, clock, hb, _⟩ := h.map
    rw [hb] at hh
    cases hh

theorem Rep.below {w w' : World} {wb tb dt sb nb cb pb fb mb k cap base : Nat} {ao : Option Addr} {ks : List Nat} {xs : List Value} {file : ByteArray} {L C : Int} {pa : Option Addr} {M : Nat}
    (h : Rep w wb tb dt sb nb cb pb fb mb k cap base ao ks xs file L C pa M) (hb : Below w.heap.size w w') : Rep w' wb tb dt sb nb cb pb fb mb k cap base ao ks xs file L C pa M :=
  h.kept ((grown_of_below hb).but _) (h.map.kept (grown_of_below hb) (by simp)) h.keys

theorem Rep.drewN {w : World} {wb tb dt sb nb cb pb fb mb k cap base : Nat} {ao : Option Addr} {ks : List Nat} {xs : List Value} {file : ByteArray} {L C : Int} {pa : Option Addr} {M : Nat}
    (h : Rep w wb tb dt sb nb cb pb fb mb k cap base ao ks xs file L C pa M) (n : Nat) : Rep (w.drewN n) wb tb dt sb nb cb pb fb mb k cap base ao ks xs file L C pa M :=
  h.below ⟨rfl, rfl, rfl, Nat.le_refl _, fun _ _ => rfl⟩

theorem Rep.pair {w : World} {wb tb dt sb nb cb pb fb mb k cap base : Nat} {ao : Option Addr} {ks : List Nat} {xs : List Value} {file : ByteArray} {L C : Int} {pa : Option Addr} {M : Nat}
    (h : Rep w wb tb dt sb nb cb pb fb mb k cap base ao ks xs file L C pa M) {j : Nat} (hj : j < M) : ∃ g p dp, pa = some ⟨g, 0, none⟩ ∧ w.cell? ⟨g, j, none⟩ = some (.pointer (some ⟨p, 0, none⟩)) ∧ Pair w p tb dp dt ∧ Named w dp := by
  obtain ⟨g, p, dp, e, q1, q2, q3, q4, q5, q6⟩ := h.path j hj
  exact ⟨g, p, dp, e, q1, ⟨q2, q3, q4, h.t0, h.t1, q5, h.tc, q6.cells, h.dn.cells⟩, q6⟩

theorem decls_of_own {w wr : World} {v : Value} {i : Nat} {ds : List Nat} (hO : wr.ownsRow w.heap.size 59 1 v i (ds.map fun b => .pointer (some ⟨b, 0, none⟩))) (hds : ∀ b ∈ ds, b < w.heap.size ∧ Named w b) (hB : Below w.heap.size w wr) : ∃ a cap, v = .slice a i cap ∧ Decls wr a i := by
  obtain ⟨h1, ⟨rfl, rfl⟩ | ⟨g, cap, cur, rfl, hg, hh, h2, h3, h4, h5⟩⟩ := hO
  · exact ⟨none, 0, rfl, fun j hj => by omega⟩
  · refine ⟨some ⟨g, 0, none⟩, cap, rfl, fun j hj => ?_⟩
    have hl : ds.length = i := by simpa using h1
    have hj' : j < ds.length := by omega
    refine ⟨g, ds[j], rfl, ?_, (hds _ (List.getElem_mem hj')).2.below hB (hds _ (List.getElem_mem hj')).1⟩
    rw [cell_of_row _ _ _ _ _ _ hh]
    have := congrArg (fun l => l[j]?) h5
    simp only [List.getElem?_take_of_lt (show j < i * 1 by omega), List.getElem?_map, List.getElem?_eq_getElem hj', Option.map_some] at this
    simpa using this

theorem keys_put {w : World} {ks : List Nat} {dt : Nat} (h : ∀ x ∈ ks, IsCells w x) (hd : IsCells w dt) : ∀ x ∈ (if dt ∈ ks then ks else ks ++ [dt]), IsCells w x := by
  intro x hx
  split at hx
  · exact h x hx
  · rcases List.mem_append.1 hx with hx | hx
    · exact h x hx
    · obtain rfl : x = dt := by simpa using hx
      exact hd

/-- What report leaves. -/
structure Reported (w w' : World) (cb mb dt k base : Nat) (v : Value) (ks : List Nat) (xs : List Value) (file : ByteArray) (L C : Int) (g cap eb : Nat) : Prop where
  map : PMap w' mb (if dt ∈ ks then ks else ks ++ [dt])
  c1 : w'.cell? ⟨cb, 1, none⟩ = some (.slice (some ⟨g, 0, none⟩) (k + 1) cap)
  own : w'.ownsRow base 24 1 (.slice (some ⟨g, 0, none⟩) (k + 1) cap) (k + 1) (xs ++ [.pointer (some ⟨eb, 0, none⟩)])
  e0 : w'.cell? ⟨eb, 0, none⟩ = some (.string file)
  e1 : w'.cell? ⟨eb, 1, none⟩ = some (.int .i64 L)
  e2 : w'.cell? ⟨eb, 2, none⟩ = some (.int .i64 C)
  os : w'.os = w.os
  tape : w'.tape = w.tape
  output : w'.output = w.output
  size : w.heap.size ≤ w'.heap.size
  block : ∀ b, b < w.heap.size → b ≠ cb → b ≠ mb → some b ≠ v.ownBlock → w'.heap[b]? = w.heap[b]?

theorem Decls.kept {w w' : World} {a : Option Addr} {N mb : Nat} {ks : List Nat} (h : Decls w a N) (hm : PMap w mb ks) (hg : w.grownBy w' (some mb)) : Decls w' a N := by
  intro j hj
  obtain ⟨g, b, e, hc, hn⟩ := h j hj
  exact ⟨g, b, e, (hg.cell_far ⟨g, j, none⟩ (World.block_lt_of_cell? w _ hc) (hm.ne hc)).trans hc, hn.kept hg (hm.neC hn.cells)⟩

theorem Decls.drew {w : World} {a : Option Addr} {N : Nat} (h : Decls w a N) : Decls w.drew a N := fun j hj =>
  let ⟨g, b, e, hc, hn⟩ := h j hj
  ⟨g, b, e, hc, hn.cells, hn.name⟩

/-- The call of errorf, behind the variadic slice's block. -/
theorem errorf_here {w : World} {wb tb dt sb nb cb pb fb mb k cap base : Nat} {ao : Option Addr} {ks : List Nat} {xs : List Value} {file : ByteArray} {L C : Int} {pa : Option Addr} {M : Nat}
    (h : Rep w wb tb dt sb nb cb pb fb mb k cap base ao ks xs file L C pa M) (ha : Apart wb tb dt sb nb cb pb fb (.slice ao k cap)) (hk : k ≤ 8) (s : ByteArray) :
    Calls Ybaf.prog 9 #[.pointer (some ⟨cb, 0, none⟩), .agg #[.int .i64 L, .int .i64 C], .string ⟨#[105, 110, 118, 97, 108, 105, 100, 32, 114, 101, 99, 117, 114, 115, 105, 118, 101, 32, 116, 121, 112, 101, 32, 37, 115]⟩, .slice (some ⟨w.heap.size, 0, none⟩) 1 1]
      (w.alloc (.cells #[.iface 9 (.string s)] 20)) fun e w' => e = .returned (.tuple #[]) ∧ ∃ g cap' eb, Logged w w' cb k base (.slice ao k cap) xs file L C g cap' eb := by
  have hb : Below w.heap.size w (w.alloc (.cells #[.iface 9 (.string s)] 20)) := (Below.refl _ _).alloc (Nat.le_refl _) _
  have h2 := h.below hb
  have v0 : (w.alloc (.cells #[.iface 9 (.string s)] 20)).cell? ⟨w.heap.size, 0, none⟩ = some (.iface 9 (.string s)) := by simp
  refine (errorf_any cb pb fb w.heap.size base k cap ao xs L C _ s file _ Ybaf.fmt1 hk h2.c0 h2.c1 h2.f1 h2.p0 h2.fl v0 h2.own h2.hbase (ha.oo cb (by simp)) (ha.oo pb (by simp)) (ha.oo fb (by simp)) (own_ne_size h.own)).mono ?_
  rintro e w' ⟨rfl, g, cap', eb, hl⟩
  exact ⟨rfl, g, cap', eb, hl.of_below hb⟩

theorem own_ne_map {w : World} {base e size n mb : Nat} {v : Value} {xs : List Value} {ks : List Nat} (h : w.ownsRow base e size v n xs) (hm : PMap w mb ks) : some mb ≠ v.ownBlock := by
  intro e0
  obtain ⟨_, h | ⟨g, cap, cur, rfl, _, hh, _⟩⟩ := h
  · rw [h.1] at e0; simp [Value.ownBlock] at e0
  · simp [Value.ownBlock] at e0
    subst e0
    obtain ⟨es, clock, hb, _⟩ := hm
    rw [hb] at hh
    cases hh

theorem Reported.mk' {w w1 w2 w3 w5 : World} {wb tb dt sb nb cb pb fb mb k cap base : Nat} {ao : Option Addr} {ks : List Nat} {xs : List Value} {file : ByteArray} {L C : Int} {pa : Option Addr} {M g cap' eb : Nat}
    (b1 : Below w.heap.size w w1) (g2 : w1.grownBy w2 (some mb)) (b3 : Below w2.heap.size w2 w3) (h : Rep w3 wb tb dt sb nb cb pb fb mb k cap base ao (if dt ∈ ks then ks else ks ++ [dt]) xs file L C pa M) (hl : Logged w3 w5 cb k base (.slice ao k cap) xs file L C g cap' eb) :
    Reported w w5 cb mb dt k base (.slice ao k cap) ks xs file L C g cap' eb := by
  have z1 := b1.size
  have z2 := g2.size
  have z3 := b3.size
  refine ⟨?_, hl.c1, hl.own, hl.e0, hl.e1, hl.e2, hl.os.trans (b3.os.trans (g2.os.trans b1.os)), hl.tape.trans (b3.tape.trans (g2.tape.trans b1.tape)), hl.output.trans (b3.output.trans (g2.output.trans b1.output)), by have := hl.size; omega, ?_⟩
  · obtain ⟨es, clock, hb, he⟩ := h.map
    exact ⟨es, clock, (hl.block mb h.map.lt (fun e => h.map.ne h.c0 (by rw [e])) (own_ne_map h.own h.map)).trans hb, he⟩
  · intro b hb n1 n2 n3
    rw [hl.block b (by omega) n1 n3, b3.block b (by omega), g2.block b (by omega) (fun e => n2 (Option.some.inj e)), b1.block b hb]

set_option maxHeartbeats 1000000 in
set_option maxRecDepth 100000 in
theorem report_any {w : World} {wb tb dt sb nb cb pb fb mb k cap base : Nat} {ao : Option Addr} {ks : List Nat} {xs : List Value} {file : ByteArray} {L C : Int} {pa : Option Addr} {M pc : Nat}
    (h : Rep w wb tb dt sb nb cb pb fb mb k cap base ao ks xs file L C pa M) (ha : Apart wb tb dt sb nb cb pb fb (.slice ao k cap)) (hk : k ≤ 8) (hM : M ≤ 256) (hpc : M ≤ pc) :
    Calls Ybaf.prog 8 #[.pointer (some ⟨wb, 0, none⟩), .pointer (some ⟨tb, 0, none⟩), .slice pa M pc] w fun e w' => e = .returned (.tuple #[]) ∧ ∃ g cap' eb, Reported w w' cb mb dt k base (.slice ao k cap) ks xs file L C g cap' eb := by
  obtain ⟨i0, hi0, hz0, hz1, hz2⟩ := info_parts Ybaf.info59
  have hM' : (M : Int) ≤ 256 := by omega
  go_enter Ybaf.func8, Ybaf.ntmps8
  go_upto_block 0 with fail
  go_cut [6] (fun s6 wx => ∃ st : Nat, s6 = .int .i64 (st : Int) ∧ st ≤ M ∧ Below w.heap.size w wx)
  case first =>
    go_wp2_with fail
    go_loopg [6, 7, 8, 14] M (fun q s6 s7 s8 s14 wx => ∃ i : Nat, i + q = M ∧ s6 = .int .i64 0 ∧ s14 = .int .i64 (i : Int) ∧ Below w.heap.size w wx)
    case atStart => exact ⟨0, by omega, rfl, rfl, Below.refl _ _⟩
    case round =>
      obtain ⟨i, hi, rfl, rfl, hB⟩ := hrel
      by_cases hlt : i < M
      · obtain ⟨g, p, dp, rfl, hc, hP, hn⟩ := (h.below hB).pair hlt
        have hi0' : (0 : Int) ≤ (i : Int) := by omega
        have hi1 : (i : Int) < (M : Int) := by omega
        go_wp2_with (first | (go_at_call 10; refine (ident_any _ _ _ _ _ hP).mono ?_; rintro e w' ⟨⟨b, rfl⟩, hg⟩))
        · go_meet
          case rel => exact ⟨i, rfl, by omega, hB.trans ⟨hg.os, hg.tape, hg.output, hg.size, fun k hk => hg.block k (Nat.lt_of_lt_of_le hk hB.size) (by simp)⟩⟩
        · go_roundg (gk - 1)
          case measure => omega
          case rel => exact ⟨i + 1, by omega, rfl, by go_num, hB.trans ⟨hg.os, hg.tape, hg.output, hg.size, fun k hk => hg.block k (Nat.lt_of_lt_of_le hk hB.size) (by simp)⟩⟩
      · go_wp2_with fail
        go_meet
        case rel => exact ⟨0, rfl, by omega, hB⟩
  case rest =>
  obtain ⟨st, rfl, hst, hB⟩ := hcut
  have hst0 : (0 : Int) ≤ (st : Int) := by omega
  have hst1 : (st : Int) ≤ (M : Int) := by omega
  go_upto_region 8 with fail
  go_cut [2, 6, 12, 26, 27, 28, 29, 30] (fun s2 s6 s12 s26 s27 s28 s29 s30 wx => ∃ x c, s28 = .slice x (M - st) c ∧ s29 = .int .i64 ((M - st : Nat) : Int) ∧ s30 = .int .i64 0 ∧ (∀ g, pa = some ⟨g, 0, none⟩ → st < M → x = some ⟨g, st, none⟩) ∧ wx = wc)
  case first =>
    go_wp2_with fail
    · go_meet
      case rel => exact ⟨_, _, rfl, rfl, rfl, fun g e hl => by omega, rfl⟩
    · go_meet
      case rel => exact ⟨_, _, rfl, rfl, rfl, fun g e _ => by subst e; simp [Addr.add]; omega, rfl⟩
  case rest =>
  obtain ⟨x, c, rfl, rfl, rfl, hx, rfl⟩ := hcut
  have hR := h.below hB
  go_wp2_with fail
  go_loopg [9, 11, 30] (M - st) (fun q s9 s11 s30 wx => ∃ (i : Nat) (ds : List Nat), i + q = M - st ∧ s30 = .int .i64 (i : Int) ∧ wx.ownsRow w.heap.size 59 1 s9 i (ds.map fun b => .pointer (some ⟨b, 0, none⟩)) ∧ (∀ b ∈ ds, b < w.heap.size ∧ Named w b) ∧ Below w.heap.size w wx)
  case atStart => exact ⟨0, [], by omega, rfl, ⟨rfl, Or.inl ⟨rfl, rfl⟩⟩, by simp, hB⟩
  case round =>
    obtain ⟨i, ds, hi, rfl, hO, hds, hB2⟩ := hrel
    by_cases hlt : i < M - st
    · obtain ⟨g, p, dp, rfl, q1, q2, q3, q4, q5, q6⟩ := h.path (st + i) (by omega)
      obtain rfl := hx g rfl (by omega)
      have hc := (hB2.cell (p := ⟨g, st + i, none⟩) (World.block_lt_of_cell? w _ q1)).trans q1
      have hp0 := (hB2.cell (p := ⟨p, 0, none⟩) (World.block_lt_of_cell? w _ q3)).trans q3
      have hi0' : (0 : Int) ≤ (i : Int) := by omega
      have hi1 : (i : Int) < ((M - st : Nat) : Int) := by omega
      go_upto_region 12 with (first | (at_builtin; refine wpList_append_lies _ rfl (.tmp 34) (.tmp 39) 57 rfl w.heap.size 59 i0 (.pointer none) 1 8 Ybaf.underlying57 hi0 hz0 hz1 hz2 rfl (by omega) u9 i (ds.map fun b => .pointer (some ⟨b, 0, none⟩)) rfl (hO.alloc _) ⟨wr.heap.size, 0, none⟩ 1 1 [.pointer (some ⟨dp, 0, none⟩)] rfl rfl (newsOf _ _ _ _ rfl) (by simp [Value.oneCell']) (by omega) (by unfold maxLen; omega) (by omega) (by have := hB2.size; simp; omega) (wr.heap.size + 1) (by simp) ?_; intro g1 c1 v1 o1 gr1 at1 lt1))
      go_wp2_with fail
      go_roundg (gk - 1)
      case measure => omega
      case rel =>
        refine ⟨i + 1, ds ++ [dp], by omega, by go_num, by rw [List.map_append]; exact o1, ?_, (hB2.alloc hB2.size _).grown gr1 (by have := hB2.size; simp; omega) (own_le hO)⟩
        intro b hb
        rcases List.mem_append.1 hb with hb | hb
        · exact hds b hb
        · obtain rfl : b = dp := by simpa using hb
          exact ⟨q6.cells.lt, q6⟩
    · go_upto_region 13 with fail
      obtain ⟨a9, cp9, rfl, hD⟩ := decls_of_own hO hds hB2
      have hiM : i ≤ 256 := by omega
      have hR1 : Rep wr.drew wb tb dt sb nb cb pb fb mb k cap base ao ks xs file L C pa M := (h.below hB2).drewN 1
      obtain ⟨W1, hrun, hm, hg⟩ := hR1.map.put hR1.keys hR1.dn.cells
      have hR2 := hR1.kept hg hm (keys_put hR1.keys hR1.dn.cells)
      simp only [ptr] at hrun
      go_region_held3 (fun w' => w'.cell? ⟨wb, 2, none⟩ = some (.map (some mb)) ∧ w'.cell? ⟨tb, 0, none⟩ = some (.pointer (some ⟨dt, 0, none⟩))) (first | exact ⟨hR1.w2, hR1.t0⟩ | exact ⟨hR2.w2, hR2.t0⟩) (fail)
      have hb1 : Below w.heap.size w wr.drew := hB2.drew
      have hD1 : Decls wr.drew a9 i := hD.drew
      have hD2 := hD1.kept hR1.map hg
      clear hD1 hD hrun hm hO hds hR1 hB2 hi hlt
      generalize wr.drew = wq at hb1 hg
      go_upto_region 14 with fail
      have hR3 : Rep W1.drew wb tb dt sb nb cb pb fb mb k cap base ao (if dt ∈ ks then ks else ks ++ [dt]) xs file L C pa M := hR2.drewN 1
      have hD3 : Decls W1.drew a9 i := hD2.drew
      have hg3 : wq.grownBy W1.drew (some mb) := grownBy_drewN hg 1
      clear hR2 hD2 hg
      go_region_held3 (fun w' => w'.cell? ⟨wb, 0, none⟩ = some (.pointer (some ⟨cb, 0, none⟩)) ∧ w'.cell? ⟨tb, 0, none⟩ = some (.pointer (some ⟨dt, 0, none⟩)) ∧ w'.cell? ⟨dt, 1, none⟩ = some (.pointer (some ⟨sb, 0, none⟩)) ∧ w'.cell? ⟨sb, 0, none⟩ = some (.pointer (some ⟨nb, 0, none⟩)) ∧ w'.cell? ⟨nb, 0, none⟩ = some (.int .i64 L) ∧ w'.cell? ⟨nb, 1, none⟩ = some (.int .i64 C))
        (first | exact ⟨hR3.w0, hR3.t0, hR3.d1, hR3.s0, hR3.n0, hR3.n1⟩ | exact ⟨hR4.w0, hR4.t0, hR4.d1, hR4.s0, hR4.n0, hR4.n1⟩ | exact ⟨hR5.w0, hR5.t0, hR5.d1, hR5.s0, hR5.n0, hR5.n1⟩ | exact ⟨hlog.keeps hR4.w0 (ha.cc _ (by simp)) (ha.oo _ (by simp)), hlog.keeps hR4.t0 (ha.cc _ (by simp)) (ha.oo _ (by simp)), hlog.keeps hR4.d1 (ha.cc _ (by simp)) (ha.oo _ (by simp)), hlog.keeps hR4.s0 (ha.cc _ (by simp)) (ha.oo _ (by simp)), hlog.keeps hR4.n0 (ha.cc _ (by simp)) (ha.oo _ (by simp)), hlog.keeps hR4.n1 (ha.cc _ (by simp)) (ha.oo _ (by simp))⟩)
        (first | (go_at_call 11; refine (cycle_any a9 i cp9 dt _ hiM hD3 hR3.dn).mono ?_; rintro e w4 ⟨⟨s, rfl⟩, hb4⟩; have hR4 := hR3.below hb4; have hR5 := hR4.below ((Below.refl w4.heap.size w4).alloc (Nat.le_refl _) (.cells #[.iface 9 (.string s)] 20))) | (go_at_call 9; refine (errorf_here hR4 ha hk s).mono ?_; rintro e w5 ⟨rfl, g, cap', eb, hlog⟩))
      have hfin := Reported.mk' hb1 hg3 hb4 hR4 hlog
      go_wp2_with fail
      go_end0
      exact ⟨rfl, g, cap', eb, hfin⟩
end Go.Proofs.YbulkaobwFmt
