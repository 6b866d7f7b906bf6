import Derived.Test.YbulkaobwState
import Derived.Deep.RegionHeld3
import Derived.Deep.DeepCutAuto
import Derived.Deep.CutBlock
import Derived.RegionTactic
import Derived.BigRegion
import Derived.Outline
import Derived.Deep.Light
namespace Go.Proofs.Ybulkaobw
open Go.RowKit Go.Maps Go.WideMaps

set_option maxHeartbeats 1000000 in
set_option maxRecDepth 100000 in
theorem model_walk (a0 a1 a2 a3 : Option Addr) (l0 l1 l2 l3 c0 c1 c2 c3 : Nat) (Z0 Z1 Z2 Z3 : Nat → Int) (w : World)
    (r0 : Row8 w a0 l0 Z0) (r1 : Row8 w a1 l1 Z1) (r2 : Row8 w a2 l2 Z2) (r3 : Row8 w a3 l3 Z3)
    (h0 : l0 ≤ 1024) (h1 : l1 ≤ 1024) (h2 : l2 ≤ 1024) (h3 : l3 ≤ 1024) :
    Calls Yba.prog 3 #[.slice a0 l0 c0, .slice a1 l1 c1, .slice a2 l2 c2, .slice a3 l3 c3] w fun e w' => e = .returned (.bool true) ∧ Below w.heap.size w w' := by
  go_enter Yba.func3, Yba.ntmps3
  go_upto_if 44 with fail
  go_cut [9] (fun s9 wx => ∃ n : Nat, s9 = .int .i64 n ∧ n ≤ l0 ∧ n ≤ l1 ∧ w = wx)
  case first =>
    go_wp2_with fail
    · go_meet
      case rel => exact ⟨l1, rfl, by omega, by omega, rfl⟩
    · go_meet
      case rel => exact ⟨l0, rfl, by omega, by omega, rfl⟩
  case rest =>
  obtain ⟨n, rfl, hn0, hn1, rfl⟩ := hcut
  go_upto_if 52 with fail
  go_cut [10] (fun s10 wx => ∃ k : Nat, s10 = .int .i64 k ∧ k ≤ l2 ∧ k ≤ l3 ∧ w = wx)
  case first =>
    go_wp2_with fail
    · go_meet
      case rel => exact ⟨l3, rfl, by omega, by omega, rfl⟩
    · go_meet
      case rel => exact ⟨l2, rfl, by omega, by omega, rfl⟩
  case rest =>
  obtain ⟨k, rfl, hk2, hk3, rfl⟩ := hcut
  go_upto_region 9 with fail
  go_cut [11] (fun s11 wx => ∃ nb sb gb : Nat, s11 = .pointer (some ⟨gb, 0, none⟩) ∧ St w wx nb sb gb n (fun _ => .string ⟨#[]⟩) (fun _ => .string ⟨#[]⟩))
  case first =>
    have hmk := run_make_row' (P := Yba.prog) 24 9 (.string ⟨#[]⟩) 16 Yba.underlying24 Yba.info9 rfl .i64 .i64 n (by omega) (by omega)
    go_region
    · go_wp2_with fail
      go_meet
      case rel => exact ⟨_, _, _, rfl, St.made w n _ _ (Or.inl ⟨rfl, rfl⟩) _⟩
    · go_wp2_with fail
      go_meet
      case rel => exact ⟨_, _, _, rfl, St.made w n _ _ (Or.inr ⟨rfl, rfl⟩) _⟩
  case rest =>
  obtain ⟨nb, sb, gb, rfl, hst⟩ := hcut
  go_wp2_with fail
  go_loopg [12] n (fun gk s12 wr => ∃ i : Nat, i + gk = n ∧ s12 = .int .i64 i ∧ St w wr nb sb gb n (fun j => if j < i then .string (pickB (Z0 j)) else .string ⟨#[]⟩) (fun j => if j < i then .string (pickB (Z1 j)) else .string ⟨#[]⟩))
  case atStart => exact ⟨0, by omega, rfl, hst.congr (by simp) (by simp)⟩
  case round =>
    clear hst
    obtain ⟨i, hi, rfl, hst⟩ := hrel
    by_cases hlt : i < n
    · obtain ⟨b0, o0, rfl, hb0, hc0, z00, z01⟩ := r0.at hst.bel (i := i) (by omega)
      obtain ⟨b1, o1, rfl, hb1, hc1, z10, z11⟩ := r1.at hst.bel (i := i) (by omega)
      have hi0 : (0 : Int) ≤ (i : Int) := by omega
      have hi1 : (i : Int) < (n : Int) := by omega
      have hi2 : (i : Int) < (l0 : Int) := by omega
      have hi3 : (i : Int) < (l1 : Int) := by omega
      have hg0 := hst.g0
      have hg1 := hst.g1
      have hcn := hst.rn.cell hlt
      have hfn := hst.rn.frozen i
      have hcs := hst.rs.cell hlt
      have hfs := hst.rs.frozen i
      have ne1 : gb ≠ nb := fun e => hst.ng e.symm
      have ne2 : gb ≠ sb := fun e => hst.sg e.symm
      have ne3 : b0 ≠ nb := by have := hst.bn; omega
      have ne4 : b1 ≠ sb := by have := hst.bs; omega
      have ne5 : sb ≠ nb := fun e => hst.ns e.symm
      have ne6 : b1 ≠ nb := by have := hst.bn; omega
      simp only [Nat.lt_irrefl, if_false] at hcn hcs
      go_wp2_with fail
      go_region_held3 (fun w' => w'.cell? ⟨gb, 0, none⟩ = some (.slice (some ⟨nb, 0, none⟩) n n) ∧ w'.cell? ⟨b0, o0 + i, none⟩ = some (.int .u8 (Z0 i)))
        (first | exact ⟨hg0, hc0⟩ | exact ⟨cell_setOther_drew hg0 ne1, cell_setOther_drew hc0 ne3⟩)
        (first | (go_at_call 5; refine (pick_any _ _ z00 z01).mono ?_; rintro e w' ⟨rfl, rfl⟩))
      have hst1 := (hst.setN i (.string (pickB (Z0 i)))).drew
      have hc1' := cell_setOther_drew (i := i) (v := .string (pickB (Z0 i))) hc1 ne6
      generalize (wr.setCell ⟨nb, i, none⟩ (.string (pickB (Z0 i)))).drew = w1 at hst1 hc1' ⊢
      have hg1' := hst1.g1
      have hcs' := hst1.rs.cell hlt
      have hfs' := hst1.rs.frozen i
      simp only [Nat.lt_irrefl, if_false] at hcs'
      clear hc0 hc1 hg0 hg1 hcn hfn hcs hfs
      go_wp2_with fail
      go_region_held3 (fun w' => w'.cell? ⟨gb, 1, none⟩ = some (.slice (some ⟨sb, 0, none⟩) n n) ∧ w'.cell? ⟨b1, o1 + i, none⟩ = some (.int .u8 (Z1 i)))
        (first | exact ⟨hg1', hc1'⟩ | exact ⟨cell_setOther_drew hg1' ne2, cell_setOther_drew hc1' ne4⟩)
        (first | (go_at_call 5; refine (pick_any _ _ z10 z11).mono ?_; rintro e w' ⟨rfl, rfl⟩))
      have hst2 := (hst1.setS i (.string (pickB (Z1 i)))).drew
      clear hst1 hcs' hfs' hg1' hc1'
      generalize (w1.setCell ⟨sb, i, none⟩ (.string (pickB (Z1 i)))).drew = w2 at hst2 ⊢
      clear hst
      go_wp2_with fail
      go_roundg (gk - 1)
      case measure => omega
      case rel =>
        refine ⟨i + 1, by omega, by go_num, hst2.congr ?_ ?_⟩
        · exact fun j _ => fill_step (fun j => .string (pickB (Z0 j))) i j _
        · exact fun j _ => fill_step (fun j => .string (pickB (Z1 j))) i j _
    · have hin : i = n := by omega
      subst hin
      have hst0 := hst.congr (N' := fun j => .string (pickB (Z0 j))) (S' := fun j => .string (pickB (Z1 j))) (fun j hj => if_pos hj) (fun j hj => if_pos hj)
      clear hst hi hlt
      have hmm := @run_makeMap Yba.prog
      go_upto_if 89 with fail
      go_cut [13] (fun s13 wx => St w wx nb sb gb i (fun j => .string (pickB (Z0 j))) (fun j => .string (pickB (Z1 j))) ∧
        ∃ mo, s13 = .map mo ∧ ∀ s : ByteArray, s.size ≤ maxLen → ∀ o q, (Instr.lookup 31 (.map mo) (.string s) false).run Yba.prog ((wx.alloc o).drewN q) = .ok (.string (valTo Z2 Z3 k s)) ((wx.alloc o).drewN q))
      case first =>
        by_cases hk0 : 0 < k
        · go_wp2_with fail
          have hst1 := hst0.alloc (.map #[] 0)
          have hmp := MapIs.made hst0 Z2 Z3
          generalize wr.heap.size = mb at hmp ⊢
          generalize wr.alloc (.map #[] 0) = wm at hst1 hmp ⊢
          clear hst0 hmm
          have hd : decide (0 < k) = true := decide_eq_true hk0
          rw [hd]
          clear hd
          go_loopg [14] k (fun gk s14 wx => ∃ j : Nat, j + gk = k ∧ s14 = .int .i64 j ∧ St w wx nb sb gb i (fun j => .string (pickB (Z0 j))) (fun j => .string (pickB (Z1 j))) ∧ MapIs w wx mb nb sb gb j (valTo Z2 Z3 j))
          case atStart => exact ⟨0, by omega, rfl, hst1, hmp⟩
          case round =>
            clear hst1 hmp
            obtain ⟨j, hj, rfl, hst, hmp⟩ := hrel
            by_cases hlt : j < k
            · obtain ⟨b2, o2, rfl, hb2, hc2, z20, z21⟩ := r2.at hst.bel (i := j) (by omega)
              obtain ⟨b3, o3, rfl, hb3, hc3, z30, z31⟩ := r3.at hst.bel (i := j) (by omega)
              have hj0 : (0 : Int) ≤ (j : Int) := by omega
              have hj1 : (j : Int) < (k : Int) := by omega
              have hj2 : (j : Int) < (l2 : Int) := by omega
              have hj3 : (j : Int) < (l3 : Int) := by omega
              obtain ⟨w', hrun, hmp', hst'⟩ := hmp.put hst (by omega) (pickB (Z2 j)) (pickB (Z3 j)) (pickB_size _) (pickB_size _)
              have hc2' := (hst'.bel.cell (p := ⟨b2, o2 + j, none⟩) hb2).trans ((hst.bel.cell (p := ⟨b2, o2 + j, none⟩) hb2).symm.trans hc2)
              have hc3' := (hst'.bel.cell (p := ⟨b3, o3 + j, none⟩) hb3).trans ((hst.bel.cell (p := ⟨b3, o3 + j, none⟩) hb3).symm.trans hc3)
              go_wp2_with fail
              go_region_held3 (fun w' => w'.cell? ⟨b2, o2 + j, none⟩ = some (.int .u8 (Z2 j)) ∧ w'.cell? ⟨b3, o3 + j, none⟩ = some (.int .u8 (Z3 j)))
                (first | exact ⟨hc2, hc3⟩ | exact ⟨hc2', hc3'⟩)
                (first | (go_at_call_of 5 (Z2 j); refine (pick_any _ _ z20 z21).mono ?_; rintro e w' ⟨rfl, rfl⟩) | (go_at_call_of 5 (Z3 j); refine (pick_any _ _ z30 z31).mono ?_; rintro e w' ⟨rfl, rfl⟩))
              clear hst hmp hc2 hc3 hc2' hc3' hrun
              go_wp2_with fail
              go_roundg (gk - 1)
              case measure => omega
              case rel => exact ⟨j + 1, by omega, by go_num, hst', hmp'⟩
            · have hjk : j = k := by omega
              subst hjk
              go_wp2_with fail
              go_meet
              case rel => exact ⟨hst, some mb, rfl, fun s hs o q => ((hmp.alloc o).drewN q).look s hs⟩
        · go_wp2_with fail
          go_meet
          case rel =>
            obtain rfl : k = 0 := by omega
            exact ⟨hst0, none, rfl, fun s hs o q => look_nil_string s hs⟩
      case rest =>
      obtain ⟨hst1, mo, rfl, hlk⟩ := hcut
      clear hst0
      go_upto_block 4 with fail
      obtain ⟨o, ho⟩ : ∃ o, o = Obj.cells #[.nilIface, .slice none 0 0, .int .i64 0, .string ⟨#[]⟩, .bool false, .pointer none, .nilIface, .map mo, .slice none 0 0, .pointer none, .int .i64 0, .slice none 0 0, .map none] 42 := ⟨_, rfl⟩
      rw [← ho]
      have ht7 : (wc.alloc o).cell? ⟨wc.heap.size, 7, none⟩ = some (.map mo) := by rw [ho]; simp
      have hst2 := hst1.alloc o
      have hlk2 := fun s hs q => hlk s hs o q
      clear hst1 hlk ho
      generalize wc.heap.size = tb at ht7 ⊢
      generalize wc.alloc o = W at ht7 hst2 hlk2 ⊢
      go_cut [16] (fun s16 wx => s16 = .bool (allEq (fun m => valTo Z2 Z3 k (pickB (Z0 m))) (fun m => pickB (Z1 m)) i) ∧ W = wx)
      case first =>
        clear ht7 hlk2
        go_wp2_with fail
        go_loopg [16, 17] i (fun gk s16 s17 wx => ∃ m : Nat, m + gk = i ∧ s17 = .int .i64 m ∧ s16 = .bool true ∧ W = wx ∧ Hid (∀ j, j < m → ((valTo Z2 Z3 k (pickB (Z0 j))).toList == (pickB (Z1 j)).toList) = true))
        case atStart => exact ⟨0, by omega, rfl, rfl, rfl, fun j hj => absurd hj (Nat.not_lt_zero _)⟩
        case round =>
          obtain ⟨m, hm, rfl, rfl, rfl, hall⟩ := hrel
          by_cases hlt : m < i
          · obtain ⟨b0, o0, rfl, hb0, hc0, z00, z01⟩ := r0.at hst2.bel (i := m) (by omega)
            obtain ⟨b1, o1, rfl, hb1, hc1, z10, z11⟩ := r1.at hst2.bel (i := m) (by omega)
            have hm0 : (0 : Int) ≤ (m : Int) := by omega
            have hm1 : (m : Int) < (i : Int) := by omega
            have hm2 : (m : Int) < (l0 : Int) := by omega
            have hm3 : (m : Int) < (l1 : Int) := by omega
            go_wp2_with (first | (go_at_call_of 5 (Z0 m); refine (pick_any _ _ z00 z01).mono ?_; rintro e w' ⟨rfl, rfl⟩))
            go_loopg [19, 20] k (fun gk s19 s20 wx => ∃ j : Nat, j + gk = k ∧ s20 = .int .i64 j ∧ s19 = .string (valTo Z2 Z3 j (pickB (Z0 m))) ∧ W = wx)
            case atStart => exact ⟨0, by omega, rfl, rfl, rfl⟩
            case round =>
              obtain ⟨j, hj, rfl, rfl, rfl⟩ := hrel
              by_cases hlt2 : j < k
              · obtain ⟨b2, o2, rfl, hb2, hc2, z20, z21⟩ := r2.at hst2.bel (i := j) (by omega)
                obtain ⟨b3, o3, rfl, hb3, hc3, z30, z31⟩ := r3.at hst2.bel (i := j) (by omega)
                have hj0 : (0 : Int) ≤ (j : Int) := by omega
                have hj1 : (j : Int) < (k : Int) := by omega
                have hj2 : (j : Int) < (l2 : Int) := by omega
                have hj3 : (j : Int) < (l3 : Int) := by omega
                cases heq : ((pickB (Z2 j)).toList == (pickB (Z0 m)).toList)
                · go_wp2_with (first | (go_at_call_of 5 (Z2 j); refine (pick_any _ _ z20 z21).mono ?_; rintro e w' ⟨rfl, rfl⟩))
                  go_roundg (gk - 1)
                  case measure => omega
                  case rel => exact ⟨j + 1, by omega, by go_num, by rw [valTo, heq]; rfl, rfl⟩
                · go_wp2_with (first | (go_at_call_of 5 (Z2 j); refine (pick_any _ _ z20 z21).mono ?_; rintro e w' ⟨rfl, rfl⟩) | (go_at_call_of 5 (Z3 j); refine (pick_any _ _ z30 z31).mono ?_; rintro e w' ⟨rfl, rfl⟩))
                  go_roundg (gk - 1)
                  case measure => omega
                  case rel => exact ⟨j + 1, by omega, by go_num, by rw [valTo, if_pos heq], rfl⟩
              · have hjk : j = k := by omega
                subst hjk
                clear hj hlt2
                cases heq : ((valTo Z2 Z3 j (pickB (Z0 m))).toList == (pickB (Z1 m)).toList)
                · go_wp2_with (first | (go_at_call_of 5 (Z1 m); refine (pick_any _ _ z10 z11).mono ?_; rintro e w' ⟨rfl, rfl⟩))
                  go_meet
                  case rel => exact ⟨congrArg Value.bool (allEq_false (V := fun m => valTo Z2 Z3 j (pickB (Z0 m))) (S := fun m => pickB (Z1 m)) hlt heq).symm, rfl⟩
                · go_wp2_with (first | (go_at_call_of 5 (Z1 m); refine (pick_any _ _ z10 z11).mono ?_; rintro e w' ⟨rfl, rfl⟩))
                  go_roundg (i - m - 1)
                  case measure => omega
                  case rel => exact ⟨m + 1, by omega, by go_num, rfl, rfl, fun x hx => (by
                    by_cases hxm : x < m
                    · exact hall.out x hxm
                    · obtain rfl : x = m := by omega
                      exact heq)⟩
          · have hmi : m = i := by omega
            subst hmi
            clear hm hlt
            go_wp2_with fail
            go_meet
            case rel => exact ⟨congrArg Value.bool (allEq_true (fun j hj => hall.out j hj)).symm, rfl⟩
      case rest =>
      obtain ⟨rfl, rfl⟩ := hcut
      go_wp2_with fail
      refine (impl_any gb tb nb sb i i i mo (fun j => pickB (Z0 j)) (fun j => pickB (Z1 j)) (fun m => valTo Z2 Z3 k (pickB (Z0 m))) W (by omega) hst2.g0 hst2.g1 ht7 (fun j hj => hst2.rn.cell hj) (fun j hj => hst2.rs.cell hj) (fun j q _ => hlk2 (pickB (Z0 j)) (pickB_size _) q)).mono ?_
      rintro e w' ⟨rfl, q, rfl⟩
      go_wp2_with fail
      go_ret
      exact ⟨ret_bool (by simp), (hst2.drewN q).bel⟩
end Go.Proofs.Ybulkaobw
