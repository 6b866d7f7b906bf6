import Derived.Test.YbulkaoiiBuild
namespace Go.Proofs.Ybulkaoii
open Go.RowKit Go.Maps Go.WideMaps
set_option linter.unusedVariables false

theorem sec_mod (z : Int) (n : Nat) (h0 : 0 ≤ z) (hn : 0 < n) : ∃ i : Nat, i < n ∧ z % (n : Int) = (i : Int) := by
  have a1 := Int.emod_nonneg z (b := (n : Int)) (by omega)
  have a2 := Int.emod_lt_of_pos z (b := (n : Int)) (by omega)
  exact ⟨(z % (n : Int)).toNat, by omega, by omega⟩

set_option maxHeartbeats 2000000 in
theorem answers_walk (a0 a1 a3 : Option Addr) (n l1 l3 c0 c1 c3 : Nat) (last : Bool) (A : Nat → Option Addr) (L C : Nat → Nat) (Z : Nat → Nat → Int) (Zw : Nat → Int) (Zq : Nat → Int × Int) (w : World)
    (h0 : Rows8 w a0 n A L C Z) (h1 : Row8 w a1 l1 Zw) (h3 : Pairs8 w a3 l3 Zq) :
    Calls Yba.prog 4 #[.slice a0 n c0, .slice a1 l1 c1, .bool last, .slice a3 l3 c3] w fun e w' => e = .returned (.bool true) ∧ Below w.heap.size w w' := by
  go_enter Yba.func4, Yba.ntmps4
  have ht := toolarge_any a0 a1 a3 n l1 l3 c0 c1 c3 A L C Z w h0
  go_wp2_with (first | (go_at_call 9; refine ht.mono ?_; rintro e w' ⟨hor, rfl⟩; rcases hor with (rfl | ⟨rfl, hn, hl1, hl3, hL⟩)) | (go_at_call 10; refine (build_any a0 a1 n l1 c0 c1 last A L C Z Zw w h0 h1 hn hl1 hL).mono ?_; rintro e w' ⟨hbel, xb, cb, kb, wb, sb, rb, rfl, hfx, hsx, hsb⟩))
  · go_ret
    exact ⟨rfl, Below.refl _ _⟩
  · go_ret
    exact ⟨rfl, Below.refl _ _⟩
  have hn0 : 0 < n := by
    rcases Nat.eq_zero_or_pos n with h | h
    · exfalso; simp_all
    · exact h
  have H3 : Hid (Pairs8 w a3 l3 Zq) := h3
  clear h0 h1 h3 ht
  go_loopg [12] l3 (fun gk s12 wx => ∃ (q : Nat) (S : Nat → Option Nat × Bool), q + gk = l3 ∧ s12 = .int .i64 q ∧ Below w.heap.size w wx ∧ Fx wx n xb cb kb wb sb last rb L (fun i j => keyB (Z i j)) (wantTo Zw l1) ∧ Sx wx n sb last L (fun i j => keyB (Z i j)) (wantTo Zw l1) S)
  case atStart => exact ⟨0, _, by omega, rfl, hbel, hfx, hsx⟩
  case round =>
    clear hfx hsx hbel
    obtain ⟨q, S, hq, rfl, hbel, hfx, hsx⟩ := hrel
    by_cases hlt : q < l3
    · obtain ⟨b3, o3, rfl, hb3, hc1, hc2, p0, p1, p2, p3⟩ := H3.out.at hbel (i := q) hlt
      have q0 : (0 : Int) ≤ (q : Int) := by omega
      have q1 : (q : Int) < (l3 : Int) := by omega
      have nn : ¬ (n : Int) = 0 := by omega
      obtain ⟨i, hin, hmod⟩ := sec_mod (Zq q).1 n p0 hn0
      have hfind := find_any n xb cb kb wb sb i last rb L (fun i j => keyB (Z i j)) (wantTo Zw l1) S (keyB (Zq q).2) wr hfx hin (hL i hin) (fun j => keyB_size _) (keyB_size _) hsx
      have i0 : (0 : Int) ≤ (i : Int) := by omega
      have i1 : (i : Int) < (n : Int) := by omega
      go_upto_region 12 with (first | (go_at_call 11; refine (key_any (Zq q).2 _ p2 p3).mono ?_; rintro e w' ⟨rfl, rfl⟩) | (go_at_call 12; refine hfind.mono ?_; rintro e w' ⟨rfl, hg, S', pb, hsx', _, _⟩))
      have hbel' := hbel.grown hg hbel.size (fun k hk => by cases hk; exact hsb)
      have hfx' := hfx.kept hg
      have kk := hfx'.kk i hin
      have hmodel := model_any (rb i) (L i) (L i) (fun j => keyB (Z i j)) (keyB (Zq q).2) last w' (hL i hin) (hfx'.rr i hin)
      clear hfind hfx hsx hbel hc1 hc2 hg
      go_wp2_with (first | (go_at_call 13; refine hmodel.mono ?_; rintro e w' ⟨rfl, rfl⟩))
      go_roundg (gk - 1)
      case measure => omega
      case rel => exact ⟨q + 1, S', by omega, by go_num, hbel', hfx', hsx'⟩
    · have hql : q = l3 := by omega
      subst hql
      go_wp2_with fail
      go_ret
      exact ⟨rfl, hbel⟩
end Go.Proofs.Ybulkaoii
