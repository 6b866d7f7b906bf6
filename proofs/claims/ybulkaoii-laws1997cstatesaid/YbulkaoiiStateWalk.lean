import Derived.Test.YbulkaoiiAnswers
import Derived.RegionTactic
import Derived.BigRegion
namespace Go.Proofs.Ybulkaoii
open Go.RowKit Go.Maps Go.WideMaps
set_option linter.unusedVariables false

theorem Yba.info4 : (Yba.prog.info? 4).map (fun i => (i.zero, i.size, i.bytes)) = some (some (.bool false), 1, 1) := by kernel_rfl
theorem ne_some (b : Nat) (w : World) : (binOp BinOp.neq 55 (.map (some b)) (.map none)).run Yba.prog w = .ok (.bool true) w := by kernel_rfl
theorem ne_none (w : World) : (binOp BinOp.neq 55 (.map none) (.map none)).run Yba.prog w = .ok (.bool false) w := by kernel_rfl

theorem below_drewN {B : Nat} {w w' : World} (h : Below B w w') : ∀ q, Below B w (w'.drewN q)
  | 0 => h
  | q + 1 => (below_drewN h q).drew

theorem Fx.keptB {w w' : World} {n xb cb kb wb sb r : Nat} {last : Bool} {rb ln : Nat → Nat} {K : Nat → Nat → ByteArray} {W : ByteArray → Bool} (h : Fx w n xb cb kb wb sb last rb ln K W) (hg : w.grownBy w' (some r))
    (hr : xb ≠ r ∧ cb ≠ r ∧ kb ≠ r ∧ wb ≠ r ∧ ∀ i, i < n → 0 < ln i → rb i ≠ r) : Fx w' n xb cb kb wb sb last rb ln K W := by
  have e : ∀ {b : Nat}, b ≠ r → some b ≠ some r := fun h e => h (Option.some.inj e)
  obtain ⟨e1, e2, e3, e4, e5⟩ := hr
  exact ⟨hg.cell h.x0 (e e1), hg.cell h.x1 (e e1), hg.cell h.x2 (e e1), hg.cell h.x3 (e e1), hg.cell h.c0 (e e2), fun i hi => hg.cell (h.kk i hi) (e e3), fun i hi j hj => hg.cell (h.rr i hi j hj) (e (e5 i hi (by omega))),
    let ⟨m, hm⟩ := h.wt; ⟨m, hm.kept hg (e e4)⟩, h.xs, h.cs, h.ks, h.rs, h.ws⟩

/-- A block that was not there yet. -/
theorem Fx.fresh {w : World} {n xb cb kb wb sb r : Nat} {last : Bool} {rb ln : Nat → Nat} {K : Nat → Nat → ByteArray} {W : ByteArray → Bool} (h : Fx w n xb cb kb wb sb last rb ln K W) (hn : 0 < n) (hr : w.heap.size ≤ r) : xb ≠ r ∧ cb ≠ r ∧ kb ≠ r ∧ wb ≠ r ∧ ∀ i, i < n → 0 < ln i → rb i ≠ r := by
  have b0 := World.block_lt_of_cell? w _ h.x0
  have b1 := World.block_lt_of_cell? w _ h.c0
  have b2 := World.block_lt_of_cell? w _ (h.kk 0 hn)
  obtain ⟨m, hm⟩ := h.wt
  have b3 := hm.lt
  simp only at b0 b1 b2
  refine ⟨by omega, by omega, by omega, by omega, fun i hi hp => ?_⟩
  have b4 := World.block_lt_of_cell? w _ (h.rr i hi 0 hp)
  simp only at b4
  omega

theorem PlIs.ne_row {w : World} {b m r n : Nat} {t : TypeId} {V : ByteArray → Nat × Bool} {f : Nat → Value} (h : PlIs w b m V) (hr : w.rowIs r t n f) : some b ≠ some r := by
  intro e
  cases e
  obtain ⟨D, ⟨es, clock, hb, _⟩, _⟩ := h
  obtain ⟨c, hc, _⟩ := hr
  rw [hb] at hc
  cases hc

theorem Sx.set {w : World} {n sb r k m : Nat} {t : TypeId} {f : Nat → Value} {last : Bool} {ln : Nat → Nat} {K : Nat → Nat → ByteArray} {W : ByteArray → Bool} {S : Nat → Option Nat × Bool} (h : Sx w n sb last ln K W S) (hr : w.rowIs r t m f) (hne : r ≠ sb) (v : Value) : Sx (w.setCell ⟨r, k, none⟩ v) n sb last ln K W S :=
  h.kept (grownBy_setCell w ⟨r, k, none⟩ v) (fun e => hne (Option.some.inj e).symm) (fun i hi b hb => let ⟨_, _, hp⟩ := h.pl i hi b hb; hp.ne_row hr)

set_option maxHeartbeats 2000000 in
theorem state_walk (a0 a1 a3 : Option Addr) (n l1 l3 c0 c1 c3 : Nat) (last : Bool) (A : Nat → Option Addr) (L C : Nat → Nat) (Z : Nat → Nat → Int) (Zw : Nat → Int) (Zq : Nat → Int × Int) (w : World)
    (h0 : Rows8 w a0 n A L C Z) (h1 : Row8 w a1 l1 Zw) (h3 : Pairs8 w a3 l3 Zq) :
    Calls Yba.prog 5 #[.slice a0 n c0, .slice a1 l1 c1, .bool last, .slice a3 l3 c3] w fun e w' => e = .returned (.bool true) ∧ Below w.heap.size w w' := by
  go_enter Yba.func5, Yba.ntmps5
  have ht := toolarge_any a0 a1 a3 n l1 l3 c0 c1 c3 A L C Z w h0
  go_upto_region 6 with (first | (go_at_call 9; refine ht.mono ?_; rintro e w' ⟨hor, rfl⟩; rcases hor with (rfl | ⟨rfl, hn, hl1, hl3, hL⟩)) | (go_at_call 10; refine (build_any a0 a1 n l1 c0 c1 last A L C Z Zw w h0 h1 hn hl1 hL).mono ?_; rintro e w' ⟨hbel, xb, cb, kb, wb, sb, rb, rfl, hfx, hsx, hsb⟩))
  · go_ret
    exact ⟨rfl, Below.refl _ _⟩
  · go_ret
    exact ⟨rfl, Below.refl _ _⟩
  have hn0 : 0 < n := by
    rcases Nat.eq_zero_or_pos n with h | h
    · exfalso; simp_all
    · exact h
  have H3 : Hid (Pairs8 w a3 l3 Zq) := h3
  clear h0 h1 h3 ht
  have hmk := run_make_row' (P := Yba.prog) 54 4 (.bool false) 1 Yba.underlying54 Yba.info4 rfl .i64 .i64 n (by omega) (by omega)
  go_wp2_with fail
  have hz : (w'.alloc (.cells (madeCells #[.bool false] n) 4)).heap.size = w'.heap.size + 1 := by simp
  have hra := (World.rowIs_made w' (.bool false) n 4).alloc (.cells (madeCells #[.bool false] n) 4)
  have hru := World.rowIs_made (w'.alloc (.cells (madeCells #[.bool false] n) 4)) (.bool false) n 4
  rw [hz] at hru
  have fa := hfx.fresh hn0 (r := w'.heap.size) (Nat.le_refl _)
  have fu := hfx.fresh hn0 (r := w'.heap.size + 1) (by omega)
  have hgg : w'.grownBy ((w'.alloc (.cells (madeCells #[.bool false] n) 4)).alloc (.cells (madeCells #[.bool false] n) 4)) none := (World.grownBy_alloc w' _ none).trans (World.grownBy_alloc _ _ none)
  have hsl := hsx.row.lt
  have nas : w'.heap.size ≠ sb := by omega
  have us : w'.heap.size + 1 ≠ sb := by omega
  have au : w'.heap.size ≠ w'.heap.size + 1 := by omega
  have ba : w.heap.size ≤ w'.heap.size := hbel.size
  have bu : w.heap.size ≤ w'.heap.size + 1 := by omega
  have hbel1 := hbel.grown hgg ba (fun k hk => by cases hk)
  have hfx1 := hfx.kept (hgg.but (some sb))
  have hsx1 := hsx.kept hgg (by simp) (by simp)
  clear hbel hfx hsx hmk hz hgg hsl
  generalize (w'.alloc (.cells (madeCells #[.bool false] n) 4)).alloc (.cells (madeCells #[.bool false] n) 4) = w1 at hra hru hbel1 hfx1 hsx1 ⊢
  generalize w'.heap.size + 1 = ub at hru fu us au bu ⊢
  generalize w'.heap.size = ab at hra fa nas au ba ⊢
  go_loopg [14] l3 (fun gk s14 wx => ∃ (q : Nat) (S : Nat → Option Nat × Bool), q + gk = l3 ∧ s14 = .int .i64 q ∧ Below w.heap.size w wx ∧ Fx wx n xb cb kb wb sb last rb L (fun i j => keyB (Z i j)) (wantTo Zw l1) ∧ Sx wx n sb last L (fun i j => keyB (Z i j)) (wantTo Zw l1) S ∧
    wx.rowIs ab 4 n (fun i => .bool (S i).1.isSome) ∧ wx.rowIs ub 4 n (fun i => .bool (S i).2))
  case atStart => exact ⟨0, _, by omega, rfl, hbel1, hfx1, hsx1, hra, hru⟩
  case round =>
    clear hbel1 hfx1 hsx1 hra hru
    obtain ⟨q, S, hq, rfl, hbel, hfx, hsx, hra, hru⟩ := hrel
    by_cases hlt : q < l3
    · obtain ⟨b3, o3, rfl, hb3, hc1, hc2, p0, p1, p2, p3⟩ := H3.out.at hbel (i := q) hlt
      have q0 : (0 : Int) ≤ (q : Int) := by omega
      have q1 : (q : Int) < (l3 : Int) := by omega
      have nn : ¬ (n : Int) = 0 := by omega
      obtain ⟨i, hin, hmod⟩ := sec_mod (Zq q).1 n p0 hn0
      have hfind := find_any n xb cb kb wb sb i last rb L (fun i j => keyB (Z i j)) (wantTo Zw l1) S (keyB (Zq q).2) wr hfx hin (hL i hin) (fun j => keyB_size _) (keyB_size _) hsx
      have i0 : (0 : Int) ≤ (i : Int) := by omega
      have i1 : (i : Int) < (n : Int) := by omega
      go_upto_region 14 with (first | (go_at_call 11; refine (key_any (Zq q).2 _ p2 p3).mono ?_; rintro e w' ⟨rfl, rfl⟩) | (go_at_call 12; refine hfind.mono ?_; rintro e w2 ⟨rfl, hg, S', pb, hsx', hS1, hS2⟩))
      have hbel2 := hbel.grown hg hbel.size (fun k hk => by cases hk; exact hsb)
      have hfx2 := hfx.kept hg
      have hra2 := hra.of_block (hg.block ab hra.lt (fun e => nas (Option.some.inj e)))
      have hru2 := hru.of_block (hg.block ub hru.lt (fun e => us (Option.some.inj e)))
      clear hfind hfx hsx hbel hc1 hc2 hg hra hru
      have ca := hra2.cell hin
      have fra := hra2.frozen i
      go_upto_region 15 with fail
      have hfx3 := hfx2.keptB (grownBy_setCell w2 ⟨ab, i, none⟩ (.bool true)) fa
      have hsx3 := hsx'.set (k := i) hra2 nas (.bool true)
      have hbel3 : Below w.heap.size w (w2.setCell ⟨ab, i, none⟩ (.bool true)) := hbel2.setCell ba _
      have hru3 := hru2.setOther (a := ⟨ab, i, none⟩) (fun e => au e.symm) (.bool true)
      have hra3 := (hra2.set i (.bool true)).congr (g := fun j => .bool (S' j).1.isSome) (fun j hj => by
        by_cases e : j = i
        · subst e; rw [if_pos rfl, hS1]; rfl
        · rw [if_neg e, hS2 j e])
      clear hfx2 hsx' hbel2 hru2 hra2 ca fra
      generalize w2.setCell ⟨ab, i, none⟩ (.bool true) = w3 at hfx3 hsx3 hbel3 hru3 hra3 ⊢
      obtain ⟨mw, hw⟩ := hfx3.wt
      have lk := hw.look (keyB (Zq q).2) (keyB_size _)
      cases hW : wantTo Zw l1 (keyB (Zq q).2)
      · rw [hW] at lk
        have cu := hru3.cell hin
        have fru := hru3.frozen i
        go_wp2_with fail
        have hfx4 := hfx3.keptB (grownBy_setCell w3 ⟨ub, i, none⟩ (.bool true)) fu
        have hsx4 := hsx3.set (k := i) hru3 us (.bool true)
        have hbel4 : Below w.heap.size w (w3.setCell ⟨ub, i, none⟩ (.bool true)) := hbel3.setCell bu _
        have hra4 := hra3.setOther (a := ⟨ub, i, none⟩) au (.bool true)
        have hru4 := (hru3.set i (.bool true)).congr (g := fun j => .bool (S' j).2) (fun j hj => by
          by_cases e : j = i
          · subst e; rw [if_pos rfl, hS1, hW]; simp
          · rw [if_neg e, hS2 j e])
        go_roundg (gk - 1)
        case measure => omega
        case rel => exact ⟨q + 1, S', by omega, by go_num, hbel4, hfx4, hsx4, hra4, hru4⟩
      · rw [hW] at lk
        go_wp2_with fail
        have hru4 := hru3.congr (g := fun j => .bool (S' j).2) (fun j hj => by
          by_cases e : j = i
          · subst e; rw [hS1, hW]; simp
          · rw [hS2 j e])
        go_roundg (gk - 1)
        case measure => omega
        case rel => exact ⟨q + 1, S', by omega, by go_num, hbel3, hfx3, hsx3, hra3, hru4⟩
    · have hql : q = l3 := by omega
      subst hql
      clear hq hlt
      have x3 := hfx.x3
      have HS : Hid (Sx wr n sb last L (fun i j => keyB (Z i j)) (wantTo Zw l1) S) := hsx
      have HA : Hid (wr.rowIs ab 4 n (fun i => .bool (S i).1.isSome)) := hra
      have HU : Hid (wr.rowIs ub 4 n (fun i => .bool (S i).2)) := hru
      clear hfx hsx hra hru fa fu nas us au ba bu
      go_wp2_with fail
      go_loopg [17] n (fun gk s17 wx => ∃ k q : Nat, k + gk = n ∧ s17 = .int .i64 k ∧ wx = wr.drewN q)
      case atStart => exact ⟨0, 0, by omega, rfl, rfl⟩
      case round =>
        obtain ⟨k, q, hk, rfl, rfl⟩ := hrel
        by_cases hlt : k < n
        · have s0 := HS.out.c0 hlt
          have s1 := HS.out.c1 hlt
          have ca := HA.out.cell hlt
          have cu := HU.out.cell hlt
          have k0 : (0 : Int) ≤ (k : Int) := by omega
          have k1 : (k : Int) < (n : Int) := by omega
          cases hS : (S k).1 with
          | none =>
            have hq := ne_none
            rw [hS] at s0 ca
            cases hc : (S k).2
            all_goals
              rw [hc] at s1 cu
              go_wp2
              go_quiet (fail)
              go_wp2
              go_quiet (fail)
              go_wp2
              go_roundg (gk - 1)
              case measure => omega
              case rel => exact ⟨k + 1, _, by omega, by go_num, rfl⟩
          | some b =>
            have hq := ne_some b
            rw [hS] at s0 ca
            cases hc : (S k).2
            all_goals
              rw [hc] at s1 cu
              go_wp2
              go_quiet (fail)
              go_wp2
              go_quiet (fail)
              go_wp2
              go_roundg (gk - 1)
              case measure => omega
              case rel => exact ⟨k + 1, _, by omega, by go_num, rfl⟩
        · have hkn : k = n := by omega
          have k1 : ¬ (k : Int) < (n : Int) := by omega
          have HK : Hid (k = n) := hkn
          clear hkn
          go_wp2
          go_ret
          exact ⟨rfl, below_drewN hbel _⟩
end Go.Proofs.Ybulkaoii
