import Derived.Test.YbulkaoiiIndex
namespace Go.Proofs.Ybulkaoii
open Go.RowKit Go.Maps Go.WideMaps
set_option linter.unusedVariables false

theorem eq_some (b : Nat) (w : World) : (binOp BinOp.eql 55 (.map (some b)) (.map none)).run Yba.prog w = .ok (.bool false) w := by kernel_rfl
theorem eq_none (w : World) : (binOp BinOp.eql 55 (.map none) (.map none)).run Yba.prog w = .ok (.bool true) w := by kernel_rfl

/-- The sections' cells. -/
def secs (S : Nat → Option Nat × Bool) (j : Nat) : Value := if j % 2 = 0 then .map (S (j / 2)).1 else .bool (S (j / 2)).2

/-- THE INDEX's SECTIONS, as they lie in memory. -/
structure Sx (w : World) (n sb : Nat) (last : Bool) (ln : Nat → Nat) (K : Nat → Nat → ByteArray) (W : ByteArray → Bool) (S : Nat → Option Nat × Bool) : Prop where
  row : w.rowIs sb 57 (n * 2) (secs S)
  pl : ∀ i, i < n → ∀ b, (S i).1 = some b → b ≠ sb ∧ ∃ m, PlIs w b m (held (K i) last (!(S i).2) W (ln i))
  nn : ∀ i, i < n → (S i).1 = none → (S i).2 = false

theorem Sx.c0 {w : World} {n sb : Nat} {last : Bool} {ln : Nat → Nat} {K : Nat → Nat → ByteArray} {W : ByteArray → Bool} {S : Nat → Option Nat × Bool} (h : Sx w n sb last ln K W S) {i : Nat} (hi : i < n) : w.cell? ⟨sb, i * 2, none⟩ = some (.map (S i).1) := by
  rw [h.row.cell (i := i * 2) (by omega)]
  have e1 : i * 2 % 2 = 0 := by omega
  have e2 : i * 2 / 2 = i := by omega
  simp only [secs, e1, e2, if_true]

theorem Sx.c1 {w : World} {n sb : Nat} {last : Bool} {ln : Nat → Nat} {K : Nat → Nat → ByteArray} {W : ByteArray → Bool} {S : Nat → Option Nat × Bool} (h : Sx w n sb last ln K W S) {i : Nat} (hi : i < n) : w.cell? ⟨sb, i * 2 + 1, none⟩ = some (.bool (S i).2) := by
  rw [h.row.cell (i := i * 2 + 1) (by omega)]
  have e1 : ¬ (i * 2 + 1) % 2 = 0 := by omega
  have e2 : (i * 2 + 1) / 2 = i := by omega
  simp only [secs, e2, if_neg e1]

theorem Sx.kept {w w' : World} {n sb : Nat} {last : Bool} {ln : Nat → Nat} {K : Nat → Nat → ByteArray} {W : ByteArray → Bool} {S : Nat → Option Nat × Bool} (h : Sx w n sb last ln K W S) {row : Option Nat} (hg : w.grownBy w' row) (h1 : some sb ≠ row) (h2 : ∀ i, i < n → ∀ b, (S i).1 = some b → some b ≠ row) : Sx w' n sb last ln K W S :=
  ⟨h.row.of_block (hg.block sb h.row.lt h1), fun i hi b hb => let ⟨e, m, hp⟩ := h.pl i hi b hb; ⟨e, m, hp.kept hg (h2 i hi b hb)⟩, h.nn⟩

theorem Sx.after {w w' : World} {n sb : Nat} {last : Bool} {ln : Nat → Nat} {K : Nat → Nat → ByteArray} {W : ByteArray → Bool} {S : Nat → Option Nat × Bool} (h : Sx w n sb last ln K W S) {i pb m : Nat} {wo : Bool} (hi : i < n)
    (hg : w.grownBy w' (some sb)) (hpb : w.heap.size ≤ pb) (hp : PlIs w' pb m (held (K i) last wo W (ln i)))
    (hr : w'.rowIs sb 57 (n * 2) (fun j => if j = i * 2 + 1 then .bool (!wo) else if j = i * 2 then .map (some pb) else secs S j)) :
    Sx w' n sb last ln K W (fun j => if j = i then (some pb, !wo) else S j) := by
  refine ⟨hr.congr fun j hj => ?_, fun j hj b hb => ?_, fun j hj hn => ?_⟩
  · by_cases e1 : j = i * 2 + 1
    · subst e1
      have a1 : ¬ (i * 2 + 1) % 2 = 0 := by omega
      have a2 : (i * 2 + 1) / 2 = i := by omega
      simp only [secs, a2, if_neg a1, if_true]
    · by_cases e2 : j = i * 2
      · subst e2
        have a1 : i * 2 % 2 = 0 := by omega
        have a2 : i * 2 / 2 = i := by omega
        simp only [secs, a1, a2, if_true, if_neg e1]
      · have a3 : ¬ j / 2 = i := by omega
        simp only [secs, if_neg e1, if_neg e2, if_neg a3]
  · by_cases e : j = i
    · subst e
      simp only [if_true, Option.some.injEq] at hb ⊢
      subst hb
      have := h.row.lt
      exact ⟨by omega, m, by simpa using hp⟩
    · simp only [if_neg e] at hb ⊢
      obtain ⟨hne, m', hp'⟩ := h.pl j hj b hb
      exact ⟨hne, m', hp'.kept hg (fun e => hne (Option.some.inj e))⟩
  · by_cases e : j = i
    · simp [e] at hn
    · simp only [if_neg e] at hn ⊢
      exact h.nn j hj hn

theorem held_full (K : Nat → ByteArray) (last c : Bool) (W : ByteArray → Bool) (j : Nat) (s : ByteArray) (h : (c || W s) = true) : held K last (!c) W j s = modelTo K s last j := by
  unfold held
  rw [if_neg]
  cases c <;> simp_all

set_option maxHeartbeats 1000000 in
theorem find_any (n xb cb kb wb sb i : Nat) (last : Bool) (rb ln : Nat → Nat) (K : Nat → Nat → ByteArray) (W : ByteArray → Bool) (S : Nat → Option Nat × Bool) (key : ByteArray) (w : World) (hf : Fx w n xb cb kb wb sb last rb ln K W) (hi : i < n) (hl : ln i ≤ 256) (hs : ∀ j, (K i j).size ≤ maxLen)
    (hkey : key.size ≤ maxLen) (hx : Sx w n sb last ln K W S) :
    Calls Yba.prog 12 #[.pointer (some ⟨xb, 0, none⟩), .int .i64 i, .string key] w fun e w' => e = .returned (.tuple #[.int .i64 (modelTo (K i) key last (ln i)).1, .bool (modelTo (K i) key last (ln i)).2]) ∧ w.grownBy w' (some sb) ∧
      ∃ S' pb, Sx w' n sb last ln K W S' ∧ S' i = (some pb, (S i).2 || !W key) ∧ ∀ j, j ≠ i → S' j = S j := by
  have h0 : (0 : Int) ≤ (i : Int) := by omega
  have h1 : (i : Int) < (n : Int) := by omega
  have x3 := hf.x3
  have x2 := hf.x2
  have c0 := hx.c0 hi
  have c1 := hx.c1 hi
  obtain ⟨mw, hw⟩ := hf.wt
  have lk := hw.look key hkey
  cases hS : (S i).1 with
  | none =>
    have hq := eq_none
    have hc := hx.nn i hi hS
    rw [hS] at c0
    rw [hc] at c1
    go_enter Yba.func12, Yba.ntmps12
    go_upto_region 4 with (first | (go_at_call 16; refine (index_any n xb cb kb wb sb i last (W key) rb ln K W (secs S) _ hf hi hl hs hx.row).mono ?_; rintro e w' ⟨rfl, hg, pb, hpb, ⟨m, hp⟩, hr⟩))
    have hx2 := hx.after hi hg hpb hp hr
    have d0 := hx2.c0 hi
    simp only [if_true] at d0
    have lp := hp.look key hkey
    have hfull := held_full (K i) last (!W key) W (ln i) key (by simp)
    rw [Bool.not_not] at hfull
    rw [hfull] at lp
    clear hfull c0 c1 x3 x2 lk
    go_wp2_with fail
    go_ret2
    exact ⟨rfl, hg, _, pb, hx2, by simp [hc], fun j hj => by simp [hj]⟩
  | some b =>
    have hq := eq_some b
    obtain ⟨hne, m, hp⟩ := hx.pl i hi b hS
    rw [hS] at c0
    cases hc : ((S i).2 || W key)
    · obtain ⟨hc1, hc2⟩ : (S i).2 = false ∧ W key = false := by simpa using hc
      rw [hc1] at c1
      rw [hc2] at lk
      go_enter Yba.func12, Yba.ntmps12
      go_upto_region 4 with (first | (go_at_call 16; refine (index_any n xb cb kb wb sb i last false rb ln K W (secs S) _ hf hi hl hs hx.row).mono ?_; rintro e w' ⟨rfl, hg, pb, hpb, ⟨m, hp⟩, hr⟩))
      have hx2 := hx.after hi hg hpb hp hr
      have d0 := hx2.c0 hi
      simp only [if_true] at d0
      have lp := hp.look key hkey
      have hfull := held_full (K i) last true W (ln i) key (by simp)
      rw [Bool.not_true] at hfull
      rw [hfull] at lp
      clear hfull c0 c1 x3 x2 lk
      go_wp2_with fail
      go_ret2
      exact ⟨rfl, hg, _, pb, hx2, by simp [hc2], fun j hj => by simp [hj]⟩
    · have lp := hp.look key hkey
      rw [held_full (K i) last (S i).2 W (ln i) key hc] at lp
      have hfin : ((S i).2 || !W key) = (S i).2 := by cases hh : (S i).2 <;> simp_all
      cases hh : (S i).2
      · have hww : W key = true := by rw [hh] at hc; simpa using hc
        rw [hh] at c1
        rw [hww] at lk
        go_enter Yba.func12, Yba.ntmps12
        go_wp2_with fail
        go_ret2
        exact ⟨rfl, World.grownBy.refl _ _, S, b, hx, by rw [← hh, hfin, ← hS], fun j hj => rfl⟩
      · rw [hh] at c1
        go_enter Yba.func12, Yba.ntmps12
        go_wp2_with fail
        go_ret2
        exact ⟨rfl, World.grownBy.refl _ _, S, b, hx, by rw [← hh, hfin, ← hS], fun j hj => rfl⟩
end Go.Proofs.Ybulkaoii
