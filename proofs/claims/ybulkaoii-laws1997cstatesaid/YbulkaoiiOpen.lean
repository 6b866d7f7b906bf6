import Derived.Test.YbulkaoiiKeys
import Derived.ProofKit
import Derived.OpenShut
import Derived.ShutString
import Derived.ChangeOld
import Derived.Below
import Derived.Deep.Matrix
import Derived.Deep.SlicePairs
namespace Go.Proofs.Ybulkaoii
open Go.ChangeShapes Go.WideShapes Go.ChangeAt Go.RowKit
set_option linter.unusedVariables false

theorem u8_bounds {p : Int} (h : (Lit.int .u8 p).wf = true) : 0 ≤ p ∧ p ≤ 255 := by
  simp [Lit.wf, IntKind.min, IntKind.max, IntKind.signed, IntKind.bits] at h
  omega

theorem plain_cell {w : World} {x : Addr} {i : Nat} {v v0 : Value} (h0 : w.cell? (x.add 0) = some v0) (h : w.cell? (x.add i) = some v) : ∃ b off, x = ⟨b, off, none⟩ ∧ b < w.heap.size ∧ w.cell? ⟨b, off + i, none⟩ = some v := by
  obtain ⟨b, off, spot⟩ := x
  have hspot : spot = none := by simpa [Addr.add] using World.cell?_spot h0
  subst hspot
  have h' : w.cell? ⟨b, off + i, none⟩ = some v := by rw [← add_plain]; exact h
  exact ⟨b, off, rfl, World.block_lt_of_cell? w _ h', h'⟩

theorem getD_wf {zs : List Int} {i : Nat} (hi : i < zs.length) (hw : ∀ n ∈ zs, (Lit.int .u8 n).wf = true) : 0 ≤ zs.getD i 0 ∧ zs.getD i 0 ≤ 255 := by
  refine u8_bounds (hw _ ?_)
  rw [List.getD, List.getElem?_eq_getElem hi]
  exact List.getElem_mem hi

theorem row8_of {H : Type} {enc : TypeId × Value → H} {W : World} {a : Option Addr} {len cap : Nat} {d : DataW H} {p : List MemPlace} (h : DataW.Trod enc Yba.prog W 0 (fun _ => true) true 39 (.slice a len cap) d p) : ∃ Z, Row8 W a len Z := by
  obtain ⟨fuel, hf⟩ := h
  rcases open_ints Yba.underlying39 Yba.underlying5 (by kernel_rfl) hf with ⟨hcs, _⟩ | ⟨x, l, c, zs, hcs, _, hl, hm, hz, _, hcell, hwz⟩
  · simp [Value.cells] at hcs
    obtain ⟨rfl, rfl, rfl⟩ := hcs
    exact ⟨fun _ => 0, fun i hi => absurd hi (Nat.not_lt_zero _)⟩
  · simp [Value.cells] at hcs
    obtain ⟨rfl, rfl, rfl⟩ := hcs
    have hz' : zs.length = cap := by simpa using hz
    refine ⟨fun i => zs.getD i 0, fun i hi => ?_⟩
    obtain ⟨b, off, rfl, hb, hc⟩ := plain_cell (hcell 0 (by omega)) (hcell i (by omega))
    exact ⟨b, off, rfl, hb, hc, getD_wf (by omega) hwz⟩

theorem rows8_of {H : Type} {enc : TypeId × Value → H} {W : World} {a : Option Addr} {len cap : Nat} {d : DataW H} {p : List MemPlace} (h : DataW.Trod enc Yba.prog W 0 (fun _ => true) true 38 (.slice a len cap) d p) : ∃ A L C Z, Rows8 W a len A L C Z := by
  obtain ⟨fuel, hf⟩ := h
  rcases Go.Deep.open_int_rows Yba.underlying38 Yba.underlying39 Yba.underlying5 (by kernel_rfl) (by kernel_rfl) hf with ⟨hcs, _⟩ | ⟨x, l, c, A, L, C, Z, hcs, _, hl, hm, _, hcell⟩
  · simp [Value.cells] at hcs
    obtain ⟨rfl, rfl, rfl⟩ := hcs
    exact ⟨fun _ => none, fun _ => 0, fun _ => 0, fun _ _ => 0, fun i hi => absurd hi (Nat.not_lt_zero _)⟩
  · simp [Value.cells] at hcs
    obtain ⟨rfl, rfl, rfl⟩ := hcs
    refine ⟨A, L, C, fun i j => (Z i).getD j 0, fun i hi => ?_⟩
    obtain ⟨h1, h2, h3, h4, h5, h6, h7⟩ := hcell i (by omega)
    obtain ⟨b, off, rfl, hb, hc⟩ := plain_cell (hcell 0 (by omega)).1 h1
    refine ⟨b, off, rfl, hb, hc, fun j hj => ?_⟩
    cases hA : A i with
    | none => have := h6 hA; omega
    | some a' =>
      obtain ⟨b', off', rfl, hb', hc'⟩ := plain_cell ((h7 a' hA).2 0 (by omega)) ((h7 a' hA).2 j (by omega))
      exact ⟨b', off', rfl, hb', hc', getD_wf (by omega) h5⟩

theorem pairs8_of {H : Type} {enc : TypeId × Value → H} {W : World} {a : Option Addr} {len cap : Nat} {d : DataW H} {p : List MemPlace} (h : DataW.Trod enc Yba.prog W 0 (fun _ => true) true 40 (.slice a len cap) d p) : ∃ Z, Pairs8 W a len Z := by
  obtain ⟨fuel, hf⟩ := h
  rcases Go.Deep.open_slice_pairs Yba.underlying40 Yba.underlying48 (by kernel_rfl) rfl rfl (by kernel_rfl) (by kernel_rfl) hf with ⟨hcs, _⟩ | ⟨x, l, c, m, n, V0, V1, D0, D1, P0, P1, hcs, _, hl, hm, hmm, _, hcell⟩
  · simp [Value.cells] at hcs
    obtain ⟨rfl, rfl, rfl⟩ := hcs
    exact ⟨fun _ => (0, 0), fun i hi => absurd hi (Nat.not_lt_zero _)⟩
  · simp [Value.cells] at hcs
    obtain ⟨rfl, rfl, rfl⟩ := hcs
    simp only [if_true] at hmm
    refine ⟨fun i => (match V0 i with | .int _ z => z | _ => 0, match V1 i with | .int _ z => z | _ => 0), fun i hi => ?_⟩
    obtain ⟨h1, h2, h3, h4⟩ := hcell i (by omega)
    obtain ⟨z0, e0, _, w0⟩ := DataW.trod_int Yba.underlying5 h3
    obtain ⟨z1, e1, _, w1⟩ := DataW.trod_int Yba.underlying5 h4
    simp only [List.cons.injEq, and_true] at e0 e1
    rw [e0] at h1
    rw [e1] at h2
    have g0 := (hcell 0 (by omega)).1
    rw [Nat.zero_mul] at g0
    obtain ⟨b, off, rfl, hb, hc⟩ := plain_cell g0 h1
    have hc' : W.cell? ⟨b, off + i * 2 + 1, none⟩ = some (.int .u8 z1) := by rw [Nat.add_assoc, ← add_plain]; exact h2
    refine ⟨b, off, rfl, hb, ?_, ?_, ?_⟩
    · simp only [e0]; exact hc
    · simp only [e1]; exact hc'
    · simp only [e0, e1]
      exact ⟨(u8_bounds w0).1, (u8_bounds w0).2, (u8_bounds w1).1, (u8_bounds w1).2⟩
end Go.Proofs.Ybulkaoii
