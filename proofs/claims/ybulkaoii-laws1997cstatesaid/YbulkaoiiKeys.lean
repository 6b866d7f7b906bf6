import Derived.Test.YbulkaoiiRows
import Derived.WalkKit
import Derived.WalkSpells
import Derived.ProofKit
import Derived.Deep.QuietTactic
import Derived.BigQuiet
import Derived.Deep.LoopGhost
import Derived.Deep.Light
import Derived.Deep.OwnRows
import Derived.Deep.DeepCutAuto
import Derived.WalkLawsBesides
namespace Go.Proofs.Ybulkaoii
open Go.RowKit
set_option linter.unusedVariables false

/-- WHAT zzs1997ckey GIVES. -/
def keyB (z : Int) : ByteArray := if z % 5 = 0 then ⟨#[97]⟩ else if z % 5 = 1 then ⟨#[98]⟩ else if z % 5 = 2 then ⟨#[99]⟩ else if z % 5 = 3 then ⟨#[100]⟩ else ⟨#[101]⟩

theorem keyB_size (z : Int) : (keyB z).size ≤ maxLen := by
  unfold keyB maxLen
  split
  · decide
  · split
    · decide
    · split
      · decide
      · split <;> decide

theorem key_any (z : Int) (w : World) (h0 : 0 ≤ z) (h1 : z ≤ 255) :
    Calls Yba.prog 11 #[.int .u8 z] w fun e w' => e = .returned (.string (keyB z)) ∧ w = w' := by
  have h4 : z % 5 = 0 ∨ z % 5 = 1 ∨ z % 5 = 2 ∨ z % 5 = 3 ∨ z % 5 = 4 := by omega
  unfold keyB
  rcases h4 with h | h | h | h | h
  all_goals
    go_enter Yba.func11, Yba.ntmps11
    go_wp2
    go_ret
    exact ⟨by simp, rfl⟩

/-- THE LAW's OWN MODEL, over the first k keys: the place, and whether there is one. -/
def modelTo (K : Nat → ByteArray) (key : ByteArray) (last : Bool) : Nat → Nat × Bool
  | 0 => (0, false)
  | k + 1 => if ((K k).toList == key.toList) = true then ((if (!(modelTo K key last k).2 || last) = true then k else (modelTo K key last k).1), true) else modelTo K key last k

theorem sectionCount_any (cb kb n c : Nat) (w : World) (h : w.cell? ⟨cb, 0, none⟩ = some (.slice (some ⟨kb, 0, none⟩) n c)) :
    Calls Yba.prog 45 #[.pointer (some ⟨cb, 0, none⟩)] w fun e w' => e = .returned (.int .i64 n) ∧ w = w' := by
  go_enter Yba.func45, Yba.ntmps45
  go_wp2_with fail
  go_ret
  exact ⟨rfl, rfl⟩

theorem optionCount_any (cb kb n c i : Nat) (ra : Option Addr) (m mc : Nat) (w : World) (hi : i < n) (h : w.cell? ⟨cb, 0, none⟩ = some (.slice (some ⟨kb, 0, none⟩) n c)) (hk : w.cell? ⟨kb, i, none⟩ = some (.slice ra m mc)) :
    Calls Yba.prog 44 #[.pointer (some ⟨cb, 0, none⟩), .int .i64 i] w fun e w' => e = .returned (.int .i64 m) ∧ w = w' := by
  have h0 : (0 : Int) ≤ (i : Int) := by omega
  have h1 : (i : Int) < (n : Int) := by omega
  go_enter Yba.func44, Yba.ntmps44
  go_wp2_with fail
  go_ret
  exact ⟨rfl, rfl⟩

theorem option_any (cb kb n c i j rb : Nat) (m mc : Nat) (s : ByteArray) (w : World) (hi : i < n) (hj : j < m) (h : w.cell? ⟨cb, 0, none⟩ = some (.slice (some ⟨kb, 0, none⟩) n c)) (hk : w.cell? ⟨kb, i, none⟩ = some (.slice (some ⟨rb, 0, none⟩) m mc))
    (hs : w.cell? ⟨rb, j, none⟩ = some (.string s)) :
    Calls Yba.prog 43 #[.pointer (some ⟨cb, 0, none⟩), .int .i64 i, .int .i64 j] w fun e w' => e = .returned (.agg #[.string s, .string ⟨#[]⟩, .string ⟨#[]⟩, .int .i64 (wrap64 ((j : Int) + 1))]) ∧ w.grownBy w' none := by
  have h0 : (0 : Int) ≤ (i : Int) := by omega
  have h1 : (i : Int) < (n : Int) := by omega
  have h2 : (0 : Int) ≤ (j : Int) := by omega
  have h3 : (j : Int) < (m : Int) := by omega
  have b0 := World.block_lt_of_cell? w _ h
  have b1 := World.block_lt_of_cell? w _ hk
  have b2 := World.block_lt_of_cell? w _ hs
  simp only at b0 b1 b2
  go_enter Yba.func43, Yba.ntmps43
  go_wp2_with fail
  refine bodyPost_ret (results_cell_row (P := Yba.prog) (fn := Yba.f43) rfl _ _ w.heap.size 74 _ (0, 0) _ rfl (heap_alloc_new w _) Yba.underlying74 rfl (by kernel_rfl)) rfl ?_
  exact ⟨rfl, World.grownBy_alloc w _ none⟩

set_option maxHeartbeats 400000 in
/-- zzs1997cmodel, over a row of strings. -/
theorem model_any (rb m mc : Nat) (K : Nat → ByteArray) (key : ByteArray) (last : Bool) (w : World) (hm : m ≤ 256) (hK : ∀ j, j < m → w.cell? ⟨rb, j, none⟩ = some (.string (K j))) :
    Calls Yba.prog 13 #[.slice (some ⟨rb, 0, none⟩) m mc, .string key, .bool last] w fun e w' => e = .returned (.tuple #[.int .i64 (modelTo K key last m).1, .bool (modelTo K key last m).2]) ∧ w = w' := by
  have HK : Hid (∀ j, j < m → w.cell? ⟨rb, j, none⟩ = some (.string (K j))) := hK
  clear hK
  go_enter Yba.func13, Yba.ntmps13
  go_wp2
  go_loopw [8, 9, 10] (fun s8 s9 s10 wr => ∃ k : Nat, k ≤ m ∧ s10 = .int .i64 k ∧ s8 = .int .i64 (modelTo K key last k).1 ∧ s9 = .bool (modelTo K key last k).2 ∧ w = wr) (fun _ _ i _ => m - (intOf i).toNat)
  case atStart => exact ⟨0, Nat.zero_le _, rfl, rfl, rfl, rfl⟩
  case round =>
    obtain ⟨k, hk, rfl, rfl, rfl, rfl⟩ := hrel
    by_cases hlt : k < m
    · have cK := HK.out k hlt
      have h0 : (0 : Int) ≤ (k : Int) := by omega
      have h1 : (k : Int) < (m : Int) := by omega
      cases heq : ((K k).toList == key.toList)
      · go_wp2
        go_roundw
        case rel => exact ⟨k + 1, by omega, by go_num, by simp [modelTo, heq], by simp [modelTo, heq], by first | trivial | rfl⟩
        case measure => simp [intOf]; omega
      · cases ho : (modelTo K key last k).2
        · go_wp2
          go_roundw
          case rel => exact ⟨k + 1, by omega, by go_num, by simp [modelTo, heq, ho], by simp [modelTo, heq], by first | trivial | rfl⟩
          case measure => simp [intOf]; omega
        · cases last
          · go_wp2
            go_roundw
            case rel => exact ⟨k + 1, by omega, by go_num, by simp [modelTo, heq, ho], by simp [modelTo, heq], by first | trivial | rfl⟩
            case measure => simp [intOf]; omega
          · go_wp2
            go_roundw
            case rel => exact ⟨k + 1, by omega, by go_num, by simp [modelTo, heq, ho], by simp [modelTo, heq], by first | trivial | rfl⟩
            case measure => simp [intOf]; omega
    · have hkn : k = m := by omega
      subst hkn
      go_wp2
      go_ret2
      exact ⟨rfl, rfl⟩

/-- A SLICE OF BYTES THAT CAME IN, whatever its address: each of its elements lies where an index leads to. -/
def Row8 (w : World) (a : Option Addr) (len : Nat) (Z : Nat → Int) : Prop :=
  ∀ i, i < len → ∃ b off, a = some ⟨b, off, none⟩ ∧ b < w.heap.size ∧ w.cell? ⟨b, off + i, none⟩ = some (.int .u8 (Z i)) ∧ 0 ≤ Z i ∧ Z i ≤ 255

/-- A SLICE OF SLICES OF BYTES THAT CAME IN. -/
def Rows8 (w : World) (a : Option Addr) (len : Nat) (A : Nat → Option Addr) (L C : Nat → Nat) (Z : Nat → Nat → Int) : Prop :=
  ∀ i, i < len → ∃ b off, a = some ⟨b, off, none⟩ ∧ b < w.heap.size ∧ w.cell? ⟨b, off + i, none⟩ = some (.slice (A i) (L i) (C i)) ∧ Row8 w (A i) (L i) (Z i)

/-- A SLICE OF PAIRS OF BYTES THAT CAME IN. -/
def Pairs8 (w : World) (a : Option Addr) (len : Nat) (Z : Nat → Int × Int) : Prop :=
  ∀ i, i < len → ∃ b off, a = some ⟨b, off, none⟩ ∧ b < w.heap.size ∧ w.cell? ⟨b, off + i * 2, none⟩ = some (.int .u8 (Z i).1) ∧ w.cell? ⟨b, off + i * 2 + 1, none⟩ = some (.int .u8 (Z i).2) ∧ 0 ≤ (Z i).1 ∧ (Z i).1 ≤ 255 ∧ 0 ≤ (Z i).2 ∧ (Z i).2 ≤ 255

theorem Row8.at {w w' : World} {a : Option Addr} {len : Nat} {Z : Nat → Int} (h : Row8 w a len Z) (hb : Below w.heap.size w w') {i : Nat} (hi : i < len) :
    ∃ b off, a = some ⟨b, off, none⟩ ∧ b < w.heap.size ∧ w'.cell? ⟨b, off + i, none⟩ = some (.int .u8 (Z i)) ∧ 0 ≤ Z i ∧ Z i ≤ 255 := by
  obtain ⟨b, off, ha, hlt, hc, h0, h1⟩ := h i hi
  exact ⟨b, off, ha, hlt, (hb.cell (p := ⟨b, off + i, none⟩) hlt).trans hc, h0, h1⟩

theorem Rows8.at {w w' : World} {a : Option Addr} {len : Nat} {A : Nat → Option Addr} {L C : Nat → Nat} {Z : Nat → Nat → Int} (h : Rows8 w a len A L C Z) (hb : Below w.heap.size w w') {i : Nat} (hi : i < len) :
    ∃ b off, a = some ⟨b, off, none⟩ ∧ b < w.heap.size ∧ w'.cell? ⟨b, off + i, none⟩ = some (.slice (A i) (L i) (C i)) ∧ Row8 w (A i) (L i) (Z i) := by
  obtain ⟨b, off, ha, hlt, hc, h0⟩ := h i hi
  exact ⟨b, off, ha, hlt, (hb.cell (p := ⟨b, off + i, none⟩) hlt).trans hc, h0⟩

theorem Pairs8.at {w w' : World} {a : Option Addr} {len : Nat} {Z : Nat → Int × Int} (h : Pairs8 w a len Z) (hb : Below w.heap.size w w') {i : Nat} (hi : i < len) :
    ∃ b off, a = some ⟨b, off, none⟩ ∧ b < w.heap.size ∧ w'.cell? ⟨b, off + i * 2, none⟩ = some (.int .u8 (Z i).1) ∧ w'.cell? ⟨b, off + i * 2 + 1, none⟩ = some (.int .u8 (Z i).2) ∧ 0 ≤ (Z i).1 ∧ (Z i).1 ≤ 255 ∧ 0 ≤ (Z i).2 ∧ (Z i).2 ≤ 255 := by
  obtain ⟨b, off, ha, hlt, hc, hc', h0⟩ := h i hi
  exact ⟨b, off, ha, hlt, (hb.cell (p := ⟨b, off + i * 2, none⟩) hlt).trans hc, (hb.cell (p := ⟨b, off + i * 2 + 1, none⟩) hlt).trans hc', h0⟩

set_option maxHeartbeats 400000 in
theorem toolarge_any (a0 a1 a3 : Option Addr) (l0 l1 l3 c0 c1 c3 : Nat) (A : Nat → Option Addr) (L C : Nat → Nat) (Z : Nat → Nat → Int) (w : World) (h0 : Rows8 w a0 l0 A L C Z) :
    Calls Yba.prog 9 #[.slice a0 l0 c0, .slice a1 l1 c1, .slice a3 l3 c3] w fun e w' => (e = .returned (.bool true) ∨ (e = .returned (.bool false) ∧ l0 ≤ 256 ∧ l1 ≤ 256 ∧ l3 ≤ 1024 ∧ ∀ i, i < l0 → L i ≤ 256)) ∧ w = w' := by
  by_cases g0 : (256 : Int) < (l0 : Int)
  · go_enter Yba.func9, Yba.ntmps9
    go_wp2_with fail
    go_ret
    exact ⟨Or.inl rfl, rfl⟩
  by_cases g1 : (256 : Int) < (l1 : Int)
  · go_enter Yba.func9, Yba.ntmps9
    go_wp2_with fail
    go_ret
    exact ⟨Or.inl rfl, rfl⟩
  by_cases g3 : (1024 : Int) < (l3 : Int)
  · go_enter Yba.func9, Yba.ntmps9
    go_wp2_with fail
    go_ret
    exact ⟨Or.inl rfl, rfl⟩
  have H0 : Hid (Rows8 w a0 l0 A L C Z) := h0
  clear h0
  go_enter Yba.func9, Yba.ntmps9
  go_wp2_with fail
  go_loopw [7] (fun s7 wr => ∃ k : Nat, k ≤ l0 ∧ s7 = .int .i64 k ∧ w = wr ∧ Hid (∀ i, i < k → L i ≤ 256)) (fun i _ => l0 - (intOf i).toNat)
  case atStart => exact ⟨0, Nat.zero_le _, rfl, rfl, fun i hi => absurd hi (Nat.not_lt_zero _)⟩
  case round =>
    obtain ⟨k, hk, rfl, rfl, hall⟩ := hrel
    by_cases hlt : k < l0
    · obtain ⟨b, off, rfl, hb, hc, _⟩ := H0.out k hlt
      have i0 : (0 : Int) ≤ (k : Int) := by omega
      have i1 : (k : Int) < (l0 : Int) := by omega
      by_cases hbig : (256 : Int) < (L k : Int)
      · go_wp2_with fail
        go_ret
        exact ⟨Or.inl rfl, rfl⟩
      · go_wp2_with fail
        go_roundw
        case rel => exact ⟨k + 1, by omega, by go_num, trivial, fun i hi => by
          by_cases h : i < k
          · exact hall.out i h
          · have : i = k := by omega
            subst this; omega⟩
        case measure => simp [intOf]; omega
    · have hkn : k = l0 := by omega
      subst hkn
      go_wp2_with fail
      go_ret
      exact ⟨Or.inr ⟨rfl, by omega, by omega, by omega, hall⟩, rfl⟩
end Go.Proofs.Ybulkaoii
