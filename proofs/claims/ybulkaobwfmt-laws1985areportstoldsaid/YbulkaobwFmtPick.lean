import Derived.Test.YbulkaobwFmtErrorf
import Derived.Deep.MidRow
namespace Go.Proofs.YbulkaobwFmt
open Go.RowKit
set_option linter.unusedVariables false

/-- The names that a pick takes. -/
def pickNames : List ByteArray := [⟨#[105, 110, 116]⟩, ⟨#[98, 111, 111, 108]⟩, ⟨#[115, 116, 114, 105, 110, 103]⟩, ⟨#[116, 114, 117, 101]⟩, ⟨#[102, 97, 108, 115, 101]⟩, ⟨#[97, 110, 121]⟩, ⟨#[98, 121, 116, 101]⟩, ⟨#[101, 114, 114, 111, 114]⟩, ⟨#[114, 117, 110, 101]⟩, ⟨#[117, 105, 110, 116, 54, 52]⟩, ⟨#[117, 105, 110, 116, 112, 116, 114]⟩, ⟨#[109, 97, 105, 110]⟩, ⟨#[102, 109, 116]⟩, ⟨#[120]⟩, ⟨#[73, 110, 116]⟩, ⟨#[95]⟩, ⟨#[]⟩, ⟨#[102, 108, 111, 97, 116, 54, 52]⟩, ⟨#[99, 111, 109, 112, 97, 114, 97, 98, 108, 101]⟩, ⟨#[99, 111, 109, 112, 108, 101, 120, 49, 50, 56]⟩, ⟨#[110, 105, 108]⟩, ⟨#[108, 101, 110]⟩, ⟨#[105, 110, 116, 56]⟩, ⟨#[117, 105, 110, 116]⟩]

theorem pick_at (i : Nat) (hi : i < 24) : ∃ r : ByteArray, (#[Value.string ⟨#[105, 110, 116]⟩, Value.string ⟨#[98, 111, 111, 108]⟩, Value.string ⟨#[115, 116, 114, 105, 110, 103]⟩, Value.string ⟨#[116, 114, 117, 101]⟩, Value.string ⟨#[102, 97, 108, 115, 101]⟩, Value.string ⟨#[97, 110, 121]⟩, Value.string ⟨#[98, 121, 116, 101]⟩, Value.string ⟨#[101, 114, 114, 111, 114]⟩, Value.string ⟨#[114, 117, 110, 101]⟩, Value.string ⟨#[117, 105, 110, 116, 54, 52]⟩, Value.string ⟨#[117, 105, 110, 116, 112, 116, 114]⟩, Value.string ⟨#[109, 97, 105, 110]⟩, Value.string ⟨#[102, 109, 116]⟩, Value.string ⟨#[120]⟩, Value.string ⟨#[73, 110, 116]⟩, Value.string ⟨#[95]⟩, Value.string ⟨#[]⟩, Value.string ⟨#[102, 108, 111, 97, 116, 54, 52]⟩, Value.string ⟨#[99, 111, 109, 112, 97, 114, 97, 98, 108, 101]⟩, Value.string ⟨#[99, 111, 109, 112, 108, 101, 120, 49, 50, 56]⟩, Value.string ⟨#[110, 105, 108]⟩, Value.string ⟨#[108, 101, 110]⟩, Value.string ⟨#[105, 110, 116, 56]⟩, Value.string ⟨#[117, 105, 110, 116]⟩] : Array Value)[i]? = some (.string r) ∧ r.size ≤ 1024 := by
  have hl : i < pickNames.length := hi
  refine ⟨pickNames[i], ?_, ?_⟩
  · show (pickNames.map Value.string).toArray[i]? = _
    rw [List.getElem?_toArray, List.getElem?_map, List.getElem?_eq_getElem hl]
    rfl
  · have : ∀ x ∈ pickNames, x.size ≤ 1024 := by decide
    exact this _ (List.getElem_mem hl)

/-- A whole array stored into the variable that was just laid for it: the world behind a letter. -/
theorem wpList_store_new {P : Program} (w0 : World) {w : World} {ops : Array Oper} {rest : List Oper} {op : Oper} {a : Act} {Q : Exit → Act → World → Prop} (ty : TypeId) (x y : Operand) (hgd : op.guard = none) (ho : op.op = .store ty x y) (Z cells : Array Value) (hw : w = w0.alloc (.cells Z ty))
    (hx : a.eval x = .pointer (some ⟨w0.heap.size, 0, none⟩)) (hy : a.eval y = .agg cells) (hZ : Z.size = cells.size) (hi : (P.info? ty).map (·.size) = some cells.size) (h1 : cells.all (·.oneCell') = true)
    (h : ∀ w', Below w0.heap.size w0 w' → (∀ j v, cells[j]? = some v → w'.cell? ⟨w0.heap.size, j, none⟩ = some v) → wpList P ops Q rest (a.put op.dst undef) w') : wpList P ops Q (op :: rest) a w := by
  subst hw
  have hth : (w0.alloc (.cells Z ty)).there w0.heap.size 0 cells.size := by
    intro j hj
    have hb := Go.Deep.blk_alloc_new w0 (.cells Z ty)
    rw [Nat.zero_add]
    constructor
    · rw [cell_of_row _ _ _ _ _ _ hb]
      simp [hZ, hj]
    · simp only [World.frozen?, hb]
      simp
  refine wpList_store_mid hgd ty x y ho w0.heap.size 0 cells hx hy hth hi h1 (h _ ?_ ?_)
  · have hsz : ∀ (vs : List Value) (o : Nat) (w : World), Below w0.heap.size w0 w → Below w0.heap.size w0 (w.setCells w0.heap.size o vs) := by
      intro vs
      induction vs with
      | nil => intro o w hw; exact hw
      | cons v vs ih => intro o w hw; exact ih _ _ (hw.setCell (Nat.le_refl _) v)
    exact hsz _ _ _ ((Below.refl _ _).alloc (Nat.le_refl _) _)
  · intro j v hj
    have := World.rangeAt_setCells_same (w0.alloc (.cells Z ty)) w0.heap.size 0 cells.toList (by simpa using hth) j v (by simpa using hj)
    simpa using this

set_option maxHeartbeats 400000 in
theorem apick_any (nm : ByteArray) (p : Int) (u : Bool) (w : World) (hn : nm.size ≤ 1024) (h0 : 0 ≤ p) (h1 : p ≤ 255) :
    Calls Ybaf.prog 5 #[.string nm, .int .u8 p, .bool u] w fun e w' => ∃ r : ByteArray, e = .returned (.string r) ∧ Below w.heap.size w w' ∧ r.size ≤ 1024 := by
  cases u
  · go_enter Ybaf.func5, Ybaf.ntmps5
    go_wp2_with (refine wpList_store_new w 85 _ _ rfl rfl _ _ rfl rfl rfl (by simp) (by kernel_rfl) (by simp [Value.oneCell']) ?_; intro w1 hb hc; clear hc)
    go_ret
    exact ⟨nm, rfl, hb, hn⟩
  · obtain ⟨r, hr, hsz⟩ := pick_at (p % 24).toNat (by omega)
    go_enter Ybaf.func5, Ybaf.ntmps5
    go_wp2_with (refine wpList_store_new w 85 _ _ rfl rfl _ _ rfl rfl rfl (by simp) (by kernel_rfl) (by simp [Value.oneCell']) ?_; intro w1 hb hc; have hcx := hc _ _ hr; clear hc hr)
    go_ret
    exact ⟨r, rfl, hb, hsz⟩
end Go.Proofs.YbulkaobwFmt
