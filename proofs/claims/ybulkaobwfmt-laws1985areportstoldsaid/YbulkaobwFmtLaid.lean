import Derived.Test.YbulkaobwFmtReports
import Derived.Test.YbulkaobwFmtTie
import Derived.ProofKit
import Derived.LaidMore
import Derived.OpenShut
import Derived.Stop.Joined
import Derived.Maps.OwnSet
import Derived.Maps.StringElems
namespace Go.Proofs.YbulkaobwFmt
open Go.ChangeShapes Go.WideShapes Go.ChangeAt Go.WideElems Go.RowKit
set_option linter.unusedVariables false

theorem plainElem_bool_inv {H : Type} {P : Program} {e : TypeId} (he : P.underlying e = some .bool) {v : Value} {z : DataW H × List MemPlace} (h : plainElem P e v = some z) : ∃ b : Bool, v = .bool b ∧ z = (.lit (.bool b), []) := by
  unfold plainElem at h
  rw [he] at h
  cases v <;> simp at h
  exact ⟨_, rfl, h.symm⟩

/-- A look-up in a map whose elements are all true. -/
theorem atKey_keys (k : List UInt8) : ∀ keys : List (List UInt8),
    (DataW.map (keys.map fun x => (Lit.string x, (DataW.lit (.bool true) : DataW Unit)))).atKey (.string k) (.lit (.bool false)) = .lit (.bool (keys.any fun x => k == x))
  | [] => rfl
  | x :: keys => by
    have ih := atKey_keys k keys
    unfold DataW.atKey at ih ⊢
    simp only [List.map_cons, List.find?_cons, List.any_cons]
    by_cases h : k = x
    · subst h
      simp [Lit.sameKey]
    · have h1 : (Lit.string x).sameKey (Lit.string k) = false := by simp [Lit.sameKey]; exact fun e => h e.symm
      have h2 : (k == x) = false := by simpa using h
      rw [h1, h2]
      simpa using ih

def five' : List (List UInt8) := [[98, 111, 111, 108], [102, 97, 108, 115, 101], [105, 110, 116], [115, 116, 114, 105, 110, 103], [116, 114, 117, 101]]
def rest' : List (List UInt8) := [[97, 110, 121], [98, 121, 116, 101], [99, 111, 109, 112, 97, 114, 97, 98, 108, 101], [99, 111, 109, 112, 108, 101, 120, 49, 50, 56], [99, 111, 109, 112, 108, 101, 120, 54, 52], [101, 114, 114, 111, 114], [102, 108, 111, 97, 116, 51, 50], [102, 108, 111, 97, 116, 54, 52], [105, 110, 116, 49, 54], [105, 110, 116, 51, 50], [105, 110, 116, 54, 52], [105, 110, 116, 56], [114, 117, 110, 101], [117, 105, 110, 116], [117, 105, 110, 116, 49, 54], [117, 105, 110, 116, 51, 50], [117, 105, 110, 116, 54, 52], [117, 105, 110, 116, 56], [117, 105, 110, 116, 112, 116, 114]]
theorem laid_res : (Rows.laid_example_com_pinion_pinion_pkg_types_reservedNames : DataW Unit) = .map (five'.map fun x => (Lit.string x, DataW.lit (.bool true))) := rfl
theorem laid_uns : (Rows.laid_example_com_pinion_pinion_pkg_types_unsupportedTypes : DataW Unit) = .map (rest'.map fun x => (Lit.string x, DataW.lit (.bool true))) := rfl

theorem any_same {a b : List (List UInt8)} (h1 : a.all (fun x => b.contains x) = true) (h2 : b.all (fun x => a.contains x) = true) (k : List UInt8) : (a.any fun x => k == x) = b.any fun x => k == x := by
  rw [Bool.eq_iff_iff, List.any_eq_true, List.any_eq_true]
  simp only [List.all_eq_true, List.contains_iff_mem] at h1 h2
  exact ⟨fun ⟨x, hx, e⟩ => ⟨x, h1 x hx, e⟩, fun ⟨x, hx, e⟩ => ⟨x, h2 x hx, e⟩⟩
theorem five_any (k : List UInt8) : (five'.any fun x => k == x) = five.any fun x => k == x := any_same (by decide) (by decide) k
theorem rest_any (k : List UInt8) : (rest'.any fun x => k == x) = rest.any fun x => k == x := any_same (by decide) (by decide) k

theorem gRes : Ybaf.prog.globalNamed (Rows.lawS1985AReportsSpec.vars.getD 0 "") = some 0 := by kernel_rfl
theorem gUns : Ybaf.prog.globalNamed (Rows.lawS1985AReportsSpec.vars.getD 1 "") = some 1 := by kernel_rfl
theorem tRes : (Ybaf.prog.globals[0]?).map (·.type) = some 78 := by kernel_rfl
theorem tUns : (Ybaf.prog.globals[1]?).map (·.type) = some 78 := by kernel_rfl

/-- A listed map, opened: its cell and its look-ups, in each later world. -/
theorem of_map {W : World} {g : Nat} {n : String} {cs : Array Value} {fuel : Nat} {keys : List (List UInt8)} {q : List MemPlace} {base : Nat} {sp : Nat → Bool} {held : Bool} {enc : TypeId × Value → Unit}
    (hg : Ybaf.prog.globalNamed n = some g) (hv : W.var? Ybaf.prog n = some cs)
    (hd : DataW.trod enc Ybaf.prog W base sp held fuel 78 cs.toList = some (.map (keys.map fun x => (Lit.string x, DataW.lit (.bool true))), q)) :
    ∃ m, W.cell? ⟨g, 0, none⟩ = some (.map (some m)) ∧ ∀ wx, Below W.heap.size W wx → ∀ s : ByteArray, s.size ≤ maxLen → (Instr.lookup 78 (.map (some m)) (.string s) false).run Ybaf.prog wx = .ok (.bool (keys.any fun x => s.toList == x)) wx := by
  rcases open_map Ybaf.underlying78 hd with ⟨_, hx⟩ | ⟨bm, es, clock, m, rfl, hcs, hb, _, F, hx⟩
  · simp at hx
  simp only [Prod.mk.injEq] at hx
  have hcell : W.cell? ⟨g, 0, none⟩ = some (.map (some bm)) := by
    have := World.var?_cell hg hv 0
    rw [Array.eq_one_of_toList hcs] at this
    simpa using this
  refine ⟨bm, hcell, fun wx hbel s hs => ?_⟩
  have hlt : bm < W.heap.size := by
    rcases Nat.lt_or_ge bm W.heap.size with h | h
    · exact h
    · rw [Array.getElem?_eq_none h] at hb; cases hb
  have hbx : wx.heap[bm]? = some (.map es clock) := by exact (hbel.block _ hlt).trans hb
  have hown := World.ownsMap_of_fit (R := plainElem Ybaf.prog 4) hbx F (fun x _ z hz => by
    obtain ⟨b, e1, e2⟩ := elemAt_bool Ybaf.underlying4 hz
    rw [e1, e2]
    exact plainElem_bool Ybaf.underlying4 b)
  rw [← hx.1] at hown
  have zero : (zeroValue 4).run Ybaf.prog wx = .ok (.bool false) wx := by kernel_rfl
  obtain ⟨v, ps, hrun, hv⟩ := hown.lookup (Maps.string_keyed Ybaf.underlying9) Ybaf.underlying78 zero (plainElem_bool Ybaf.underlying4 false) (WideMaps.keyOf_string_mk (s := s) Ybaf.underlying9 hs)
  rw [atKey_keys] at hv
  obtain ⟨b, rfl, hz⟩ := plainElem_bool_inv Ybaf.underlying4 hv
  simp only [Prod.mk.injEq, DataW.lit.injEq, Lit.bool.injEq] at hz
  rw [hrun, ← hz.1, ByteArray.toList_eq]

/-- WHAT THE ROW's LIST GIVES THE WALK. -/
theorem of_laid {W : World} (h : laidMetH Ybaf.prog Rows.lawS1985AReportsRow.laid W) : ∃ m1 m2, W.cell? ⟨0, 0, none⟩ = some (.map (some m1)) ∧ W.cell? ⟨1, 0, none⟩ = some (.map (some m2)) ∧
    (∀ wx, Below W.heap.size W wx → ∀ s : ByteArray, s.size ≤ maxLen → (Instr.lookup 78 (.map (some m1)) (.string s) false).run Ybaf.prog wx = .ok (.bool (five.any fun x => s.toList == x)) wx) ∧
    (∀ wx, Below W.heap.size W wx → ∀ s : ByteArray, s.size ≤ maxLen → (Instr.lookup 78 (.map (some m2)) (.string s) false).run Ybaf.prog wx = .ok (.bool (rest.any fun x => s.toList == x)) wx) := by
  rw [MakeChecks.laidMetH_plain _ _ _ (by kernel_rfl)] at h
  obtain ⟨ps, ⟨g0, t0, cs0, f0, p0, q0, hg0, ht0, hv0, hd0, ⟨g1, t1, cs1, f1, p1, q1, hg1, ht1, hv1, hd1, _, _⟩, _⟩, _, _⟩ := h
  obtain rfl := Option.some.inj (gUns.symm.trans hg0)
  obtain rfl := Option.some.inj (gRes.symm.trans hg1)
  obtain rfl := Option.some.inj (tUns.symm.trans ht0)
  obtain rfl := Option.some.inj (tRes.symm.trans ht1)
  rw [laid_uns] at hd0
  rw [laid_res] at hd1
  obtain ⟨m2, c2, l2⟩ := of_map hg0 hv0 hd0
  obtain ⟨m1, c1, l1⟩ := of_map hg1 hv1 hd1
  refine ⟨m1, m2, c1, c2, fun wx hb s hs => ?_, fun wx hb s hs => ?_⟩
  · rw [l1 wx hb s hs, five_any]
  · rw [l2 wx hb s hs, rest_any]
end Go.Proofs.YbulkaobwFmt
