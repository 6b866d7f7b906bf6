import Derived.Test.YbulkaobwFmtErrorf
import Derived.LaidEqlPtr
import Derived.MapKept
import Derived.Maps.OwnSet
namespace Go.Proofs.YbulkaobwFmt
open Go.RowKit
set_option linter.unusedVariables false

/-- A pointer to the block k. -/
def ptr (k : Nat) : Value := .pointer (some ⟨k, 0, none⟩)

/-- A block of cells, none frozen. -/
def IsCells (w : World) (k : Nat) : Prop := ∃ c t, w.heap[k]? = some (.cells c t (0, 0))

/-- A map[*StructDecl]bool as it lies in memory: true at the keys ks, in the order in which they came. -/
def PMap (w : World) (b : Nat) (ks : List Nat) : Prop :=
  ∃ es clock, w.heap[b]? = some (.map es clock) ∧ es.toList.map (fun e => (e.key, e.val)) = ks.map (fun k => (ptr k, .bool true))

theorem equal_ptr (w : World) {a b : Nat} (ha : IsCells w a) (hb : IsCells w b) : (Op.equal 59 (ptr a) (ptr b)).run Ybaf.prog w = .ok (a == b) w := by
  obtain ⟨ca, ta, ha⟩ := ha
  obtain ⟨cb, tb, hb⟩ := hb
  obtain ⟨j, hj, hsz⟩ : ∃ j, Ybaf.prog.info? 71 = some j ∧ j.size ≠ 0 := by
    have h : (Ybaf.prog.info? 71).map (fun i => decide (i.size ≠ 0)) = some true := by kernel_rfl
    obtain ⟨j, hj, e⟩ := Option.map_eq_some_iff.1 h
    exact ⟨j, hj, of_decide_eq_true e⟩
  by_cases e : a = b
  · subst e
    have h : ∀ d : Nat, (Op.equalIn (d + 1) 59 (.pointer (some ⟨a, 0, none⟩)) (.pointer (some ⟨a, 0, none⟩))).run Ybaf.prog w = .ok true w := fun d => by
      simp [Op.equalIn, run_underlying Ybaf.underlying59, sizeOf, typeInfo, hj, run_sameAddr_same]
    have := h 9999
    simpa [ptr, Op.equal, Op.maxDepth] using this
  · have hne : (⟨a, 0, none⟩ : Addr) ≠ ⟨b, 0, none⟩ := fun h => e (congrArg Addr.block h)
    have h : ∀ d : Nat, (Op.equalIn (d + 1) 59 (.pointer (some ⟨a, 0, none⟩)) (.pointer (some ⟨b, 0, none⟩))).run Ybaf.prog w = .ok false w := fun d => by
      simp [Op.equalIn, run_underlying Ybaf.underlying59, sizeOf, typeInfo, hj, hsz, run_sameAddr_other w hne ha hb]
    have hf : (a == b) = false := by simpa using e
    have := h 9999
    rw [hf]
    simpa [ptr, Op.equal, Op.maxDepth] using this

theorem asking (w : World) {k : Nat} (hk : IsCells w k) : ∀ (ks : List Nat) (es : List MapEntry) (i : Nat), (∀ x ∈ ks, IsCells w x) → es.map (fun e => (e.key, e.val)) = ks.map (fun k => (ptr k, .bool true)) →
    (Instr.findAsking 59 (ptr k) es i).run Ybaf.prog w = .ok (if k ∈ ks then some (i + ks.idxOf k, .bool true) else none) w
  | [], [], i, _, _ => by simp [Instr.findAsking]
  | x :: ks, e :: es, i, hc, he => by
    simp only [List.map_cons, List.cons.injEq, Prod.mk.injEq] at he
    obtain ⟨⟨h1, h2⟩, h3⟩ := he
    have ih := asking w hk ks es (i + 1) (fun y hy => hc y (List.mem_cons_of_mem _ hy)) h3
    have hq := equal_ptr w hk (hc x (by simp))
    by_cases ex : k = x
    · subst ex
      simp [Instr.findAsking, h1, h2, hq]
    · have hf : (k == x) = false := by simpa using ex
      rw [hf] at hq
      have hf2 : (x == k) = false := by simpa using fun h : x = k => ex h.symm
      simp only [Instr.findAsking, h1]
      simp [hq, ih, ex, List.idxOf_cons, hf2]
      have e1 : i + 1 + List.idxOf k ks = i + (List.idxOf k ks + 1) := by omega
      rw [e1]
  | [], _ :: _, _, _, h => by simp at h
  | _ :: _, [], _, _, h => by simp at h

theorem find_ptr (w : World) {k : Nat} (hk : IsCells w k) (ks : List Nat) (es : List MapEntry) (hc : ∀ x ∈ ks, IsCells w x) (he : es.map (fun e => (e.key, e.val)) = ks.map (fun k => (ptr k, .bool true))) :
    (Instr.findKey 59 (ptr k) es).run Ybaf.prog w = .ok (if k ∈ ks then some (ks.idxOf k, .bool true) else none) w := by
  have h := asking w hk ks es 0 hc he
  rw [Nat.zero_add] at h
  unfold Instr.findKey
  cases es with
  | nil =>
    cases ks with
    | nil => simp [run_underlying Ybaf.underlying59, Instr.findNow]
    | cons x ks => simp at he
  | cons e es =>
    have hn : Instr.findNow (.pointer 71) (ptr k) (e :: es) 0 = none := by
      simp [Instr.findNow, Instr.sameNow]
    simp [run_underlying Ybaf.underlying59, hn, h]

theorem check_ptr (w : World) (em : Bool) (k : Nat) : (Instr.checkKey em 10000 59 (ptr k)).run Ybaf.prog w = .ok () w := by
  have h : ∀ d : Nat, (Instr.checkKey em (d + 1) 59 (ptr k)).run Ybaf.prog w = .ok () w := fun d => by
    simp [Instr.checkKey, run_underlying Ybaf.underlying59, ptr]
  exact h 9999

theorem PMap.look {w : World} {b k : Nat} {ks : List Nat} (h : PMap w b ks) (hc : ∀ x ∈ ks, IsCells w x) (hk : IsCells w k) : (Instr.lookup 79 (.map (some b)) (ptr k) false).run Ybaf.prog w = .ok (.bool (decide (k ∈ ks))) w := by
  obtain ⟨es, clock, hb, he⟩ := h
  have hf := find_ptr w hk ks es.toList hc he
  have hck := check_ptr w es.isEmpty k
  have hz : (zeroValue 4).run Ybaf.prog w = .ok (.bool false) w := by kernel_rfl
  unfold Instr.lookup
  by_cases hm : k ∈ ks
  · rw [if_pos hm] at hf
    simp [run_underlying Ybaf.underlying79, MapKept.run_getObj_map hb, hck, hf, hm]
  · rw [if_neg hm] at hf
    simp [run_underlying Ybaf.underlying79, MapKept.run_getObj_map hb, hck, hf, hm, hz]

theorem PMap.put {w : World} {b k : Nat} {ks : List Nat} (h : PMap w b ks) (hc : ∀ x ∈ ks, IsCells w x) (hk : IsCells w k) :
    ∃ w', (Instr.mapUpdate 79 (.map (some b)) (ptr k) (.bool true)).run Ybaf.prog w = .ok () w' ∧ PMap w' b (if k ∈ ks then ks else ks ++ [k]) ∧ w.grownBy w' (some b) := by
  obtain ⟨es, clock, hb, he⟩ := h
  have hf := find_ptr w hk ks es.toList hc he
  have hck := check_ptr w false k
  have hlt : b < w.heap.size := by
    rcases Nat.lt_or_ge b w.heap.size with h | h
    · exact h
    · rw [Array.getElem?_eq_none h] at hb; cases hb
  have hgr : ∀ o, w.grownBy { w with heap := w.heap.setIfInBounds b o } (some b) := fun o =>
    ⟨rfl, rfl, rfl, by simp, fun j _ hne => by
      show (w.heap.setIfInBounds b o)[j]? = w.heap[j]?
      rw [Array.getElem?_setIfInBounds, if_neg (fun e => hne (by rw [e]))]⟩
  have hat : ∀ o, ({ w with heap := w.heap.setIfInBounds b o } : World).heap[b]? = some o := fun o => by
    show (w.heap.setIfInBounds b o)[b]? = some o
    rw [Array.getElem?_setIfInBounds, if_pos rfl, if_pos hlt]
  unfold Instr.mapUpdate
  by_cases hm : k ∈ ks
  · rw [if_pos hm] at hf
    rw [if_pos hm]
    have hi : ks.idxOf k < ks.length := List.idxOf_lt_length_of_mem hm
    have hlen : es.size = ks.length := by simpa using congrArg List.length he
    have hkey : ∃ e0, es[ks.idxOf k]? = some e0 ∧ e0.key = ptr k ∧ e0.val = .bool true := by
      have hx := congrArg (fun l => l[ks.idxOf k]?) he
      simp only [List.getElem?_map] at hx
      rw [List.getElem?_eq_getElem hi, List.getElem_idxOf hi] at hx
      rw [Array.getElem?_toList] at hx
      obtain ⟨e0, h0, h1⟩ := Option.map_eq_some_iff.1 hx
      simp only [Prod.mk.injEq] at h1
      exact ⟨e0, h0, h1.1, h1.2⟩
    obtain ⟨e0, h0, h1, h2⟩ := hkey
    have hst : (Instr.keyThatStays (ptr k) (ptr k)).run Ybaf.prog w = .ok (ptr k) w := by
      simp [Instr.keyThatStays, Instr.sameBits, ptr]
    refine ⟨{ w with heap := w.heap.setIfInBounds b (.map (es.modify (ks.idxOf k) fun e => { e with key := ptr k, val := .bool true }) clock) }, ?_, ⟨_, _, hat _, ?_⟩, hgr _⟩
    · simp [run_underlying Ybaf.underlying79, MapKept.run_getObj_map hb, hck, hf, h0, h1, hst, MapKept.run_setObj_map _ hb]
    · rw [← he]
      apply List.ext_getElem?
      intro j
      simp only [List.getElem?_map, Array.getElem?_toList, Array.getElem?_modify]
      by_cases ej : ks.idxOf k = j
      · subst ej
        rw [if_pos rfl, h0]
        simp [h1, h2]
      · rw [if_neg ej]
  · rw [if_neg hm] at hf
    rw [if_neg hm]
    refine ⟨{ w with heap := w.heap.setIfInBounds b (.map (es.push { key := ptr k, val := .bool true, born := clock }) (clock + 1)) }, ?_, ⟨_, _, hat _, ?_⟩, hgr _⟩
    · simp [run_underlying Ybaf.underlying79, MapKept.run_getObj_map hb, hck, hf, MapKept.run_setObj_map _ hb]
    · simp [he]

theorem PMap.len {w : World} {b : Nat} {ks : List Nat} (h : PMap w b ks) (ty : TypeId) : (Builtin.len_ #[79] ty #[.map (some b)]).run Ybaf.prog w = .ok (.int .i64 ks.length) w := by
  obtain ⟨es, clock, hb, he⟩ := h
  have hlen : es.size = ks.length := by simpa using congrArg List.length he
  rw [← hlen]
  simp [Builtin.len_, run_underlying Ybaf.underlying79, MapKept.run_getObj_map hb, goInt, Result.andThen]

theorem PMap.made (w : World) : PMap (w.alloc (.map #[] 0)) w.heap.size [] := ⟨#[], 0, Go.Deep.blk_alloc_new _ _, rfl⟩

theorem PMap.kept {w w' : World} {b : Nat} {ks : List Nat} {row : Option Nat} (h : PMap w b ks) (hg : w.grownBy w' row) (hne : some b ≠ row) : PMap w' b ks := by
  obtain ⟨es, clock, hb, he⟩ := h
  have hlt : b < w.heap.size := by
    rcases Nat.lt_or_ge b w.heap.size with h | h
    · exact h
    · rw [Array.getElem?_eq_none h] at hb; cases hb
  exact ⟨es, clock, (hg.block b hlt hne).trans hb, he⟩
end Go.Proofs.YbulkaobwFmt
