import Derived.Test.YbulkaoiiKeys
import Derived.Maps.OwnSet
import Derived.Maps.StringElems
import Derived.Maps.AppendAt
import Derived.Maps.RangeWalk
namespace Go.Proofs.Ybulkaoii
open Go.RowKit Go.Maps Go.WideMaps
set_option linter.unusedVariables false

theorem Yba.law9 : Keyed Yba.prog 9 := string_keyed Yba.underlying9
theorem Yba.zero4 (w : World) : (zeroValue 4).run Yba.prog w = .ok (.bool false) w := by kernel_rfl
theorem Yba.zero3 (w : World) : (zeroValue 3).run Yba.prog w = .ok (.int .i64 0) w := by kernel_rfl

theorem plainElem_bool_inv {H : Type} {P : Program} {e : TypeId} (he : P.underlying e = some .bool) {v : Value} {z : DataW H × List MemPlace} (h : plainElem P e v = some z) : ∃ b : Bool, v = .bool b ∧ z = (.lit (.bool b), []) := by
  unfold plainElem at h
  rw [he] at h
  cases v <;> simp at h
  exact ⟨_, rfl, h.symm⟩

theorem lit_ne {s s' : ByteArray} (h : (s.toList == s'.toList) = false) : (Lit.string s'.data.toList) ≠ .string s.data.toList := by
  intro e
  simp only [Lit.string.injEq] at e
  rw [ByteArray.toList_eq, ByteArray.toList_eq, e] at h
  simp at h

theorem bytes_of_beq {s s' : ByteArray} (h : (s.toList == s'.toList) = true) : s = s' := by
  rw [beq_iff_eq, ByteArray.toList_eq, ByteArray.toList_eq] at h
  exact ByteArray.ext (Array.ext' h)

theorem grownBy_setCell (w : World) (a : Addr) (v : Value) : w.grownBy (w.setCell a v) (some a.block) :=
  ⟨rfl, rfl, rfl, by simp [World.setCell], fun k _ hne => Below.heap_setCell w a v k (fun e => hne (by rw [e]))⟩

/-- THE MAP OF THE WANTED KEYS, as it lies in memory. -/
def WtIs (w : World) (b m : Nat) (V : ByteArray → Bool) : Prop :=
  ∃ D : DataW Unit, w.ownsMap Yba.prog 9 (plainElem Yba.prog 4) b m D ∧ ∀ s : ByteArray, D.atKey (.string s.data.toList) (.lit (.bool false)) = .lit (.bool (V s))

/-- A SECTION's MAP OF PLACES, as it lies in memory. -/
def PlIs (w : World) (b m : Nat) (V : ByteArray → Nat × Bool) : Prop :=
  ∃ D : DataW Unit, w.ownsMap Yba.prog 9 (plainElem Yba.prog 3) b m D ∧ ∀ s : ByteArray, has D (.string s.data.toList) = (V s).2 ∧ D.atKey (.string s.data.toList) (.lit (.int .i64 0)) = .lit (.int .i64 (V s).1)

theorem WtIs.lt {w : World} {b m : Nat} {V : ByteArray → Bool} (h : WtIs w b m V) : b < w.heap.size := let ⟨_, h1, _⟩ := h; h1.lt
theorem PlIs.lt {w : World} {b m : Nat} {V : ByteArray → Nat × Bool} (h : PlIs w b m V) : b < w.heap.size := let ⟨_, h1, _⟩ := h; h1.lt
theorem WtIs.kept {w w' : World} {b m : Nat} {V : ByteArray → Bool} {row : Option Nat} (h : WtIs w b m V) (hg : w.grownBy w' row) (hne : some b ≠ row) : WtIs w' b m V := let ⟨D, h1, h2⟩ := h; ⟨D, h1.kept hg hne, h2⟩
theorem PlIs.kept {w w' : World} {b m : Nat} {V : ByteArray → Nat × Bool} {row : Option Nat} (h : PlIs w b m V) (hg : w.grownBy w' row) (hne : some b ≠ row) : PlIs w' b m V := let ⟨D, h1, h2⟩ := h; ⟨D, h1.kept hg hne, h2⟩
theorem PlIs.congr {w : World} {b m : Nat} {V V' : ByteArray → Nat × Bool} (h : PlIs w b m V) (e : ∀ s, V s = V' s) : PlIs w b m V' := let ⟨D, h1, h2⟩ := h; ⟨D, h1, fun s => by rw [← e s]; exact h2 s⟩
theorem WtIs.congr {w : World} {b m : Nat} {V V' : ByteArray → Bool} (h : WtIs w b m V) (e : ∀ s, V s = V' s) : WtIs w b m V' := let ⟨D, h1, h2⟩ := h; ⟨D, h1, fun s => by rw [← e s]; exact h2 s⟩
theorem PlIs.mono {w : World} {b m m' : Nat} {V : ByteArray → Nat × Bool} (h : PlIs w b m V) (hm : m ≤ m') : PlIs w b m' V := let ⟨D, h1, h2⟩ := h; ⟨D, h1.mono hm, h2⟩
theorem WtIs.made (w : World) : WtIs (w.alloc (.map #[] 0)) w.heap.size 0 (fun _ => false) := ⟨_, World.ownsMap_made w Yba.prog 9 (plainElem Yba.prog 4), fun s => by simp [DataW.atKey]⟩
theorem PlIs.made (w : World) : PlIs (w.alloc (.map #[] 0)) w.heap.size 0 (fun _ => (0, false)) := ⟨_, World.ownsMap_made w Yba.prog 9 (plainElem Yba.prog 3), fun s => by simp [DataW.atKey, has]⟩

theorem WtIs.look {w : World} {b m : Nat} {V : ByteArray → Bool} (h : WtIs w b m V) (s : ByteArray) (hs : s.size ≤ maxLen) : (Instr.lookup 44 (.map (some b)) (.string s) false).run Yba.prog w = .ok (.bool (V s)) w := by
  obtain ⟨D, h1, h2⟩ := h
  obtain ⟨v, ps, hrun, hv⟩ := h1.lookup Yba.law9 Yba.underlying44 (Yba.zero4 w) (plainElem_bool Yba.underlying4 false) (keyOf_string_mk (s := s) Yba.underlying9 hs)
  rw [h2 s] at hv
  obtain ⟨c, rfl, hz⟩ := plainElem_bool_inv Yba.underlying4 hv
  simp only [Prod.mk.injEq, DataW.lit.injEq, Lit.bool.injEq] at hz
  rw [hrun, hz.1]

theorem PlIs.look {w : World} {b m : Nat} {V : ByteArray → Nat × Bool} (h : PlIs w b m V) (s : ByteArray) (hs : s.size ≤ maxLen) : (Instr.lookup 55 (.map (some b)) (.string s) true).run Yba.prog w = .ok (.tuple #[.int .i64 (V s).1, .bool (V s).2]) w := by
  obtain ⟨D, h1, h2⟩ := h
  obtain ⟨v, ps, hrun, hv⟩ := h1.look_ok Yba.law9 Yba.underlying55 (Yba.zero3 w) (plainElem_int Yba.underlying3 (a := 0) (by decide)) (keyOf_string_mk (s := s) Yba.underlying9 hs)
  rw [(h2 s).2] at hv
  obtain ⟨c, rfl, hz, _⟩ := plainElem_int_inv Yba.underlying3 hv
  simp only [Prod.mk.injEq, DataW.lit.injEq, Lit.int.injEq] at hz
  rw [hrun, (h2 s).1, hz.1.2]

theorem WtIs.put {w : World} {b m : Nat} {V : ByteArray → Bool} (h : WtIs w b m V) (hm : m ≤ 2000) (s : ByteArray) (hs : s.size ≤ maxLen) :
    ∃ w', (Instr.mapUpdate 44 (.map (some b)) (.string s) (.bool true)).run Yba.prog w = .ok () w' ∧ WtIs w' b (m + 1) (fun s' => if (s.toList == s'.toList) = true then true else V s') ∧ w.grownBy w' (some b) := by
  obtain ⟨D, hown, hat⟩ := h
  obtain ⟨w', hrun, hown', hgrow⟩ := hown.update Yba.law9 Yba.underlying44 (by unfold maxLen; omega) (keyOf_string_mk (P := Yba.prog) Yba.underlying9 hs) (plainElem_bool Yba.underlying4 true)
  refine ⟨w', hrun, ⟨_, hown', fun s' => ?_⟩, hgrow⟩
  cases e : (s.toList == s'.toList)
  · rw [atKey_put_other (lit_ne e), hat]; simp only [e, Bool.false_eq_true, if_false]
  · obtain rfl := bytes_of_beq e
    rw [atKey_put_same (k := .string s.data.toList) hown.isMap trivial]
    simp

theorem PlIs.put {w : World} {b m : Nat} {V : ByteArray → Nat × Bool} (h : PlIs w b m V) (hm : m ≤ 2000) (s : ByteArray) (hs : s.size ≤ maxLen) (j : Nat) (hj : j ≤ 2000) :
    ∃ w', (Instr.mapUpdate 55 (.map (some b)) (.string s) (.int .i64 j)).run Yba.prog w = .ok () w' ∧ PlIs w' b (m + 1) (fun s' => if (s.toList == s'.toList) = true then (j, true) else V s') ∧ w.grownBy w' (some b) := by
  obtain ⟨D, hown, hat⟩ := h
  have hwf : (Lit.int .i64 (j : Int)).wf = true := by simp [Lit.wf, IntKind.min, IntKind.max, IntKind.signed, IntKind.bits]; omega
  obtain ⟨w', hrun, hown', hgrow⟩ := hown.update Yba.law9 Yba.underlying55 (by unfold maxLen; omega) (keyOf_string_mk (P := Yba.prog) Yba.underlying9 hs) (plainElem_int Yba.underlying3 hwf)
  refine ⟨w', hrun, ⟨_, hown', fun s' => ?_⟩, hgrow⟩
  cases e : (s.toList == s'.toList)
  · rw [atKey_put_other (lit_ne e), has_put_other (lit_ne e), (hat s').1, (hat s').2]; simp only [e, Bool.false_eq_true, if_false, and_self]
  · obtain rfl := bytes_of_beq e
    rw [atKey_put_same (k := .string s.data.toList) hown.isMap trivial, has_put_same (k := .string s.data.toList) hown.isMap trivial]
    simp

/-- WHAT A SECTION's MAP HOLDS behind the first j keys: of the wanted ones alone where wo is set. -/
def held (K : Nat → ByteArray) (last wo : Bool) (W : ByteArray → Bool) (j : Nat) (s : ByteArray) : Nat × Bool := if (wo && !W s) = true then (0, false) else modelTo K s last j

theorem held_skip {K : Nat → ByteArray} {last wo : Bool} {W : ByteArray → Bool} {j : Nat} (h : (wo && !W (K j)) = true) (s : ByteArray) : held K last wo W j s = held K last wo W (j + 1) s := by
  unfold held
  by_cases hs : (wo && !W s) = true
  · rw [if_pos hs, if_pos hs]
  · rw [if_neg hs, if_neg hs]
    have : ((K j).toList == s.toList) = false := by
      cases e : ((K j).toList == s.toList)
      · rfl
      · rw [bytes_of_beq e] at h; exact absurd h hs
    simp [modelTo, this]

theorem held_seen {K : Nat → ByteArray} {wo : Bool} {W : ByteArray → Bool} {j : Nat} (h : (held K false wo W j (K j)).2 = true) (s : ByteArray) : held K false wo W j s = held K false wo W (j + 1) s := by
  unfold held at h ⊢
  by_cases hs : (wo && !W s) = true
  · rw [if_pos hs, if_pos hs]
  · rw [if_neg hs, if_neg hs]
    cases e : ((K j).toList == s.toList)
    · simp [modelTo, e]
    · have e' := bytes_of_beq e
      rw [e', if_neg hs] at h
      simp [modelTo, e, h]
      rw [← h]

theorem held_put {K : Nat → ByteArray} {last wo : Bool} {W : ByteArray → Bool} {j : Nat} (h1 : (wo && !W (K j)) = false) (h2 : (!(held K last wo W j (K j)).2 || last) = true) (s : ByteArray) :
    (if ((K j).toList == s.toList) = true then (j, true) else held K last wo W j s) = held K last wo W (j + 1) s := by
  unfold held at h2 ⊢
  cases e : ((K j).toList == s.toList)
  · simp [modelTo, e]
  · have e' := bytes_of_beq e
    rw [e'] at h1 h2
    rw [h1] at h2 ⊢
    simp only [Bool.false_eq_true, if_false] at h2 ⊢
    simp only [modelTo, e, if_true, h2]
end Go.Proofs.Ybulkaoii
