import Derived.Test.YbulkaoiiFind
namespace Go.Proofs.Ybulkaoii
open Go.RowKit Go.Maps Go.WideMaps
set_option linter.unusedVariables false

theorem Yba.info9 : (Yba.prog.info? 9).map (fun i => (i.zero, i.size, i.bytes)) = some (some (.string ⟨#[]⟩), 1, 16) := by kernel_rfl
theorem Yba.info22 : (Yba.prog.info? 22).map (fun i => (i.zero, i.size, i.bytes)) = some (some (.slice none 0 0), 1, 24) := by kernel_rfl
theorem Yba.info57 : (Yba.prog.info? 57).map (fun i => (i.zero, i.size, i.bytes)) = some (some (.agg #[.map none, .bool false]), 2, 16) := by kernel_rfl

theorem meth_sections (a : Addr) (w : World) : (method 205 66 (.pointer (some a)) (inPkg "inione.sectionCount")).run Yba.prog w = .ok (45, .pointer (some a)) w := by kernel_rfl

theorem make_secs (n : Nat) (hn : n ≤ 256) (w : World) : (Instr.makeSlice 60 (.int .i64 (n : Int)) (.int .i64 (n : Int))).run Yba.prog w = .ok (.slice (some ⟨w.heap.size, 0, none⟩) n n) (w.alloc (.cells (madeCells #[.map none, .bool false] (n * 2)) 57)) := by
  obtain ⟨i, hi, hzz⟩ := Option.map_eq_some_iff.1 Yba.info57
  simp only [Prod.mk.injEq] at hzz
  obtain ⟨hz, hs, hb⟩ := hzz
  have hr := run_make (P := Yba.prog) w 60 57 i _ Yba.underlying60 hi hz .i64 .i64 n n (by omega) (Int.le_refl _) (by rw [hb]; omega) (by omega)
  rw [hr, hs]
  rfl

theorem secs_made (w : World) (n : Nat) : (w.alloc (.cells (madeCells #[.map none, .bool false] (n * 2)) 57)).rowIs w.heap.size 57 (n * 2) (secs (fun _ => (none, false))) := by
  refine ⟨_, Go.Deep.blk_alloc_new _ _, size_madeCells _ _, fun i hi => ?_⟩
  rcases Nat.mod_two_eq_zero_or_one i with h | h
  · simp [madeCells, hi, secs, h]
  · simp [madeCells, hi, secs, h]

theorem new_any (cb kb n wb : Nat) (last : Bool) (w : World) (hn : n ≤ 256) (h : w.cell? ⟨cb, 0, none⟩ = some (.slice (some ⟨kb, 0, none⟩) n n)) :
    Calls Yba.prog 15 #[.iface 66 (.pointer (some ⟨cb, 0, none⟩)), .bool last, .map (some wb)] w fun e w' => e = .returned (.pointer (some ⟨w.heap.size + 1, 0, none⟩)) ∧ w.grownBy w' none ∧
      w'.cell? ⟨w.heap.size + 1, 0, none⟩ = some (.iface 66 (.pointer (some ⟨cb, 0, none⟩))) ∧ w'.cell? ⟨w.heap.size + 1, 1, none⟩ = some (.bool last) ∧ w'.cell? ⟨w.heap.size + 1, 2, none⟩ = some (.map (some wb)) ∧
      w'.cell? ⟨w.heap.size + 1, 3, none⟩ = some (.slice (some ⟨w.heap.size, 0, none⟩) n n) ∧ w'.rowIs w.heap.size 57 (n * 2) (secs (fun _ => (none, false))) := by
  have hm := meth_sections ⟨cb, 0, none⟩
  simp [inPkg, slash] at hm
  have hmk := make_secs n hn
  go_enter Yba.func15, Yba.ntmps15
  go_wp2_with (first | (go_at_call 45; refine (sectionCount_any cb kb n n _ h).mono ?_; rintro e w' ⟨rfl, rfl⟩))
  go_ret
  have hgen : ((w.alloc (Obj.cells (madeCells #[Value.map none, Value.bool false] (n * 2)) 57)).alloc (Obj.cells #[Value.iface 66 (Value.pointer (some ⟨cb, 0, none⟩)), Value.bool last, Value.map (some wb), Value.slice (some ⟨w.heap.size, 0, none⟩) n n] 62)).heap[w.heap.size + 1]? =
      some (Obj.cells #[Value.iface 66 (Value.pointer (some ⟨cb, 0, none⟩)), Value.bool last, Value.map (some wb), Value.slice (some ⟨w.heap.size, 0, none⟩) n n] 62) := by
    have := Go.Deep.blk_alloc_new (w.alloc (Obj.cells (madeCells #[Value.map none, Value.bool false] (n * 2)) 57)) (Obj.cells #[Value.iface 66 (Value.pointer (some ⟨cb, 0, none⟩)), Value.bool last, Value.map (some wb), Value.slice (some ⟨w.heap.size, 0, none⟩) n n] 62)
    simpa using this
  refine ⟨rfl, (World.grownBy_alloc w _ none).trans (World.grownBy_alloc _ _ none), ?_, ?_, ?_, ?_, (secs_made w n).alloc _⟩
  all_goals simp only [World.cell?, hgen]; rfl

/-- What newKeyIndex leaves behind the box of the keys. -/
theorem Fx.made {w0 w w' : World} {kb n wb m : Nat} {last : Bool} {rb L : Nat → Nat} {Z : Nat → Nat → Int} {W : ByteArray → Bool}
    (hk : ∀ i, i < n → w.cell? ⟨kb, i, none⟩ = some (.slice (some ⟨rb i, 0, none⟩) (L i) (L i)))
    (hrr : ∀ i, i < n → w.rowIs (rb i) 9 (L i) (fun t => .string (keyB (Z i t)))) (hkb : kb < w.heap.size) (hw : WtIs w wb m W)
    (hg : (w.alloc (.cells #[.slice (some ⟨kb, 0, none⟩) n n] 68)).grownBy w' none)
    (y0 : w'.cell? ⟨w.heap.size + 1 + 1, 0, none⟩ = some (.iface 66 (.pointer (some ⟨w.heap.size, 0, none⟩)))) (y1 : w'.cell? ⟨w.heap.size + 1 + 1, 1, none⟩ = some (.bool last)) (y2 : w'.cell? ⟨w.heap.size + 1 + 1, 2, none⟩ = some (.map (some wb)))
    (y3 : w'.cell? ⟨w.heap.size + 1 + 1, 3, none⟩ = some (.slice (some ⟨w.heap.size + 1, 0, none⟩) n n)) :
    Fx w' n (w.heap.size + 1 + 1) w.heap.size kb wb (w.heap.size + 1) last rb L (fun i j => keyB (Z i j)) W := by
  have hg0 : w.grownBy w' none := (World.grownBy_alloc w _ none).trans hg
  have hc : (w.alloc (.cells #[.slice (some ⟨kb, 0, none⟩) n n] 68)).cell? ⟨w.heap.size, 0, none⟩ = some (.slice (some ⟨kb, 0, none⟩) n n) := by
    have := Go.Deep.blk_alloc_new w (.cells #[.slice (some ⟨kb, 0, none⟩) n n] 68)
    simp only [World.cell?, this]; rfl
  have hwl := hw.lt
  refine ⟨y0, y1, y2, y3, hg.cell hc (by simp), fun i hi => hg0.cell (hk i hi) (by simp), fun i hi j hj => hg0.cell ((hrr i hi).cell hj) (by simp), ⟨m, hw.kept hg0 (by simp)⟩, by omega, by omega, by omega, fun i hi => ?_, by omega⟩
  have := (hrr i hi).lt
  omega

/-- WHETHER s IS AMONG THE FIRST k WANTED KEYS. -/
def wantTo (Z : Nat → Int) : Nat → ByteArray → Bool
  | 0, _ => false
  | k + 1, s => if ((keyB (Z k)).toList == s.toList) = true then true else wantTo Z k s

/-- THE KEYS' ROWS, the first i of them laid. -/
structure Bd (w0 w : World) (kb n i : Nat) (rb L : Nat → Nat) (Z : Nat → Nat → Int) : Prop where
  bel : Below w0.heap.size w0 w
  kr : w.rowIs kb 22 n (fun j => if j < i then .slice (some ⟨rb j, 0, none⟩) (L j) (L j) else .slice none 0 0)
  bk : w0.heap.size ≤ kb
  rows : ∀ j, j < i → w.rowIs (rb j) 9 (L j) (fun t => .string (keyB (Z j t)))
  rk : ∀ j, j < i → rb j ≠ kb

theorem Bd.kept {w0 w w' : World} {kb n i : Nat} {rb L : Nat → Nat} {Z : Nat → Nat → Int} (h : Bd w0 w kb n i rb L Z) {row : Option Nat} (hg : w.grownBy w' row) (hr : ∀ k, row = some k → w0.heap.size ≤ k ∧ k ≠ kb ∧ ∀ j, j < i → k ≠ rb j) : Bd w0 w' kb n i rb L Z := by
  have hz := h.bel.size
  refine ⟨h.bel.grown hg hz (fun k hk => (hr k hk).1), h.kr.of_block (hg.block kb h.kr.lt (fun e => (hr kb e.symm).2.1 rfl)), h.bk, fun j hj => (h.rows j hj).of_block (hg.block _ (h.rows j hj).lt (fun e => (hr _ e.symm).2.2 j hj rfl)), h.rk⟩

theorem Bd.more {w0 w : World} {kb n i r : Nat} {rb L : Nat → Nat} {Z : Nat → Nat → Int} (h : Bd w0 w kb n i rb L Z) (hr : w.rowIs r 9 (L i) (fun t => .string (keyB (Z i t)))) (hk : r ≠ kb) :
    Bd w0 (w.setCell ⟨kb, i, none⟩ (.slice (some ⟨r, 0, none⟩) (L i) (L i))) kb n (i + 1) (fun j => if j = i then r else rb j) L Z := by
  refine ⟨h.bel.setCell h.bk _, (h.kr.set i _).congr fun j hj => ?_, h.bk, fun j hj => ?_, fun j hj => ?_⟩
  · by_cases e : j = i
    · subst e
      simp
    · by_cases e2 : j < i
      · rw [if_neg e, if_pos e2, if_pos (by omega), if_neg e]
      · rw [if_neg e, if_neg e2, if_neg (by omega)]
  · by_cases e : j = i
    · subst e
      simp only [if_true]
      exact hr.setOther hk _
    · simp only [if_neg e]
      exact (h.rows j (by omega)).setOther (h.rk j (by omega)) _
  · by_cases e : j = i
    · simp only [e, if_true]; exact hk
    · simp only [if_neg e]; exact h.rk j (by omega)

set_option maxHeartbeats 2000000 in
theorem build_any (a0 a1 : Option Addr) (n l1 c0 c1 : Nat) (last : Bool) (A : Nat → Option Addr) (L C : Nat → Nat) (Z : Nat → Nat → Int) (Zw : Nat → Int) (w : World)
    (h0 : Rows8 w a0 n A L C Z) (h1 : Row8 w a1 l1 Zw) (hn : n ≤ 256) (hl1 : l1 ≤ 256) (hL : ∀ i, i < n → L i ≤ 256) :
    Calls Yba.prog 10 #[.slice a0 n c0, .slice a1 l1 c1, .bool last] w fun e w' => Below w.heap.size w w' ∧ ∃ xb cb kb wb sb rb, e = .returned (.tuple #[.pointer (some ⟨xb, 0, none⟩), .slice (some ⟨kb, 0, none⟩) n n, .map (some wb)]) ∧
      Fx w' n xb cb kb wb sb last rb L (fun i j => keyB (Z i j)) (wantTo Zw l1) ∧ Sx w' n sb last L (fun i j => keyB (Z i j)) (wantTo Zw l1) (fun _ => (none, false)) ∧ w.heap.size ≤ sb := by
  have hmk := run_make_row' (P := Yba.prog) 43 22 (.slice none 0 0) 24 Yba.underlying43 Yba.info22 rfl .i64 .i64 n (by omega) (by omega)
  go_enter Yba.func10, Yba.ntmps10
  go_wp2_with fail
  have hbd : Bd w (w.alloc (.cells (madeCells #[.slice none 0 0] n) 22)) w.heap.size n 0 (fun _ => 0) L Z :=
    ⟨(Below.refl _ _).alloc (Nat.le_refl _) _, (World.rowIs_made w (.slice none 0 0) n 22).congr (fun j _ => by simp), Nat.le_refl _, fun j hj => absurd hj (Nat.not_lt_zero _), fun j hj => absurd hj (Nat.not_lt_zero _)⟩
  generalize w.alloc (.cells (madeCells #[.slice none 0 0] n) 22) = w1 at hbd ⊢
  generalize hkb : w.heap.size = kb at hbd ⊢
  clear hmk
  have H0 : Hid (Rows8 w a0 n A L C Z) := h0
  have H1 : Hid (Row8 w a1 l1 Zw) := h1
  clear h0 h1
  clear hkb
  go_loopg [10] n (fun gk s10 wx => ∃ i rb, i + gk = n ∧ s10 = .int .i64 (i : Nat) ∧ Bd w wx kb n i rb L Z)
  case atStart => exact ⟨0, _, by omega, rfl, hbd⟩
  case round =>
    clear hbd
    obtain ⟨i, rb, hi, rfl, hbd⟩ := hrel
    obtain ⟨G, hG⟩ : ∃ G, G = gk := ⟨gk, rfl⟩
    by_cases hlt : i < n
    · obtain ⟨b0, o0, rfl, hb0, hc0, hrow⟩ := H0.out.at hbd.bel (i := i) hlt
      have HR : Hid (Row8 w (A i) (L i) (Z i)) := hrow
      have i0 : (0 : Int) ≤ (i : Int) := by omega
      have i1 : (i : Int) < (n : Int) := by omega
      have hLi := hL i hlt
      have hmk := run_make_row' (P := Yba.prog) 22 9 (.string ⟨#[]⟩) 16 Yba.underlying22 Yba.info9 rfl .i64 .i64 (L i) (by omega) (by omega)
      clear hrow
      go_upto_region 6 with fail
      have hbd1 := hbd.kept (World.grownBy_alloc wr (.cells (madeCells #[.string ⟨#[]⟩] (L i)) 9) none) (fun k hk => by cases hk)
      have hr1 := World.rowIs_made wr (.string ⟨#[]⟩) (L i) 9
      have hrk : wr.heap.size ≠ kb := by have := hbd.kr.lt; omega
      have hrr : ∀ j, j < i → wr.heap.size ≠ rb j := fun j hj => by have := (hbd.rows j hj).lt; omega
      have hr0 : w.heap.size ≤ wr.heap.size := hbd.bel.size
      clear hbd hc0 hmk
      generalize wr.alloc (.cells (madeCells #[.string ⟨#[]⟩] (L i)) 9) = w2 at hbd1 hr1 ⊢
      generalize wr.heap.size = r at hr1 hrk hrr hr0 ⊢
      go_wp2_with fail
      go_loopg [12] (L i) (fun gk s12 wx => ∃ k : Nat, k + gk = L i ∧ s12 = .int .i64 k ∧ Bd w wx kb n i rb L Z ∧ wx.rowIs r 9 (L i) (fun t => if t < k then .string (keyB (Z i t)) else .string ⟨#[]⟩))
      case atStart => exact ⟨0, by omega, rfl, hbd1, hr1.congr (fun j _ => by simp)⟩
      case round =>
        clear hbd1 hr1
        obtain ⟨k, hk, rfl, hbd, hr⟩ := hrel
        obtain ⟨b0', o0', e0, _, hc0, _⟩ := H0.out.at hbd.bel (i := i) hlt
        cases e0
        by_cases hkl : k < L i
        · obtain ⟨b2, o2, ha, hb2, hc2, z0, z1⟩ := HR.out.at hbd.bel (i := k) hkl
          have k0 : (0 : Int) ≤ (k : Int) := by omega
          have k1 : (k : Int) < (L i : Int) := by omega
          have hcr := hr.cell hkl
          have hfr := hr.frozen k
          rw [ha] at hc0
          clear ha
          go_wp2_with (first | (go_at_call 11; refine (key_any (Z i k) _ z0 z1).mono ?_; rintro e w' ⟨rfl, rfl⟩))
          have hbd2 := hbd.kept (grownBy_setCell wr ⟨r, k, none⟩ (.string (keyB (Z i k)))) (fun k' hk' => by cases hk'; exact ⟨hr0, hrk, hrr⟩)
          have hr2 := hr.set k (.string (keyB (Z i k)))
          go_roundg (gk - 1)
          case measure => omega
          case rel =>
            refine ⟨k + 1, by omega, by go_num, hbd2, hr2.congr fun t _ => ?_⟩
            by_cases e : t = k
            · subst e; simp
            · by_cases e2 : t < k
              · rw [if_neg e, if_pos e2, if_pos (by omega)]
              · rw [if_neg e, if_neg e2, if_neg (by omega)]
        · have hkl' : k = L i := by omega
          have hr' := hr.congr (g := fun t => .string (keyB (Z i t))) (fun t ht => if_pos (by omega))
          have hck := hbd.kr.cell hlt
          have hfk := hbd.kr.frozen i
          have hbd3 := hbd.more hr' hrk
          have HK : Hid (k = L i) := hkl'
          clear hkl'
          have k1 : ¬ (k : Int) < (L i : Int) := by omega
          clear hr hbd
          go_wp2_with fail
          go_roundg (G - 1)
          case measure => omega
          case rel => exact ⟨i + 1, _, by omega, by go_num, hbd3⟩
    · have hin : i = n := by omega
      subst hin
      have hmm := @run_makeMap Yba.prog
      clear hlt hi
      go_upto_region 12 with fail
      have hbd1 := hbd.kept (World.grownBy_alloc wr (.map #[] 0) none) (fun k hk => by cases hk)
      have hw1 := WtIs.made wr
      have hwk : wr.heap.size ≠ kb := by have := hbd.kr.lt; omega
      have hwr : ∀ j, j < i → wr.heap.size ≠ rb j := fun j hj => by have := (hbd.rows j hj).lt; omega
      have hw0 : w.heap.size ≤ wr.heap.size := hbd.bel.size
      clear hbd hmm
      generalize wr.alloc (.map #[] 0) = w2 at hbd1 hw1 ⊢
      generalize wr.heap.size = wb at hw1 hwk hwr hw0 ⊢
      go_wp2_with fail
      go_loopg [14] l1 (fun gk s14 wx => ∃ k : Nat, k + gk = l1 ∧ s14 = .int .i64 k ∧ Bd w wx kb i i rb L Z ∧ WtIs wx wb k (wantTo Zw k))
      case atStart => exact ⟨0, by omega, rfl, hbd1, hw1⟩
      case round =>
        clear hbd1 hw1
        obtain ⟨k, hk, rfl, hbd, hw⟩ := hrel
        by_cases hkl : k < l1
        · obtain ⟨b2, o2, rfl, hb2, hc2, z0, z1⟩ := H1.out.at hbd.bel (i := k) hkl
          have k0 : (0 : Int) ≤ (k : Int) := by omega
          have k1 : (k : Int) < (l1 : Int) := by omega
          obtain ⟨w3, hrun, hw3, hg3⟩ := hw.put (by omega) (keyB (Zw k)) (keyB_size _)
          have hbd3 := hbd.kept hg3 (fun k' hk' => by cases hk'; exact ⟨hw0, hwk, hwr⟩)
          go_wp2_with (first | (go_at_call 11; refine (key_any (Zw k) _ z0 z1).mono ?_; rintro e w' ⟨rfl, rfl⟩))
          go_roundg (gk - 1)
          case measure => omega
          case rel => exact ⟨k + 1, by omega, by go_num, hbd3, hw3⟩
        · have hkl' : k = l1 := by omega
          subst hkl'
          clear hkl hk
          go_upto_region 16 with fail
          have hc : (wr.alloc (.cells #[.slice (some ⟨kb, 0, none⟩) i i] 68)).cell? ⟨wr.heap.size, 0, none⟩ = some (.slice (some ⟨kb, 0, none⟩) i i) := by
            have := Go.Deep.blk_alloc_new wr (.cells #[.slice (some ⟨kb, 0, none⟩) i i] 68)
            simp only [World.cell?, this]; rfl
          have hz : (wr.alloc (.cells #[.slice (some ⟨kb, 0, none⟩) i i] 68)).heap.size = wr.heap.size + 1 := by simp
          have hnew := new_any wr.heap.size kb i wb last _ hn hc
          rw [hz] at hnew
          go_wp2_with (first | (go_at_call 15; refine hnew.mono ?_; rintro e w' ⟨rfl, hg, y0, y1, y2, y3, hrow⟩))
          go_ret3
          have hfx := Fx.made (w0 := w) (rb := rb) (L := L) (Z := Z) (fun j hj => (hbd.kr.cell hj).trans (by rw [if_pos hj])) hbd.rows hbd.kr.lt hw hg y0 y1 y2 y3
          have hsz := hbd.bel.size
          refine ⟨?_, _, _, _, _, _, rb, rfl, hfx, ⟨hrow, fun j _ b hb => by simp at hb, fun _ _ _ => rfl⟩, by omega⟩
          exact (hbd.bel.alloc hsz _).grown hg (by rw [hz]; omega) (fun k hk => by cases hk)
end Go.Proofs.Ybulkaoii
