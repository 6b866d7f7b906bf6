import Derived.Test.YbulkaobwFmtIdent
import Derived.Test.YbulkaobwFmtJoin
namespace Go.Proofs.YbulkaobwFmt
open Go.RowKit
set_option linter.unusedVariables false
set_option linter.unusedSimpArgs false

theorem Ybaf.info9 : (Ybaf.prog.info? 9).map (fun i => (i.zero, i.size, i.bytes)) = some (some (.string ⟨#[]⟩), 1, 16) := by kernel_rfl
theorem info59c : ∃ i, Ybaf.prog.info? 59 = some i ∧ i.comparable = true := by
  have h : (Ybaf.prog.info? 59).map (fun i => decide (i.comparable = true)) = some true := by kernel_rfl
  obtain ⟨j, hj, e⟩ := Option.map_eq_some_iff.1 h
  exact ⟨j, hj, of_decide_eq_true e⟩
theorem eq20 (w : World) {a b : Nat} (ha : IsCells w a) (hb : IsCells w b) : (binOp .eql 20 (.iface 59 (.pointer (some ⟨a, 0, none⟩))) (.iface 59 (.pointer (some ⟨b, 0, none⟩)))).run Ybaf.prog w = .ok (.bool (a == b)) w := by
  obtain ⟨i, hi, hc⟩ := info59c
  obtain ⟨j, hj, hz⟩ := info71
  by_cases e : a = b
  · subst e
    rw [run_eql_iface_ptr_same w ⟨a, 0, none⟩ Ybaf.underlying20 Ybaf.underlying59 hi hc hj]; simp
  · obtain ⟨ca, ta, ha⟩ := ha
    obtain ⟨cb, tb, hb⟩ := hb
    rw [run_eql_iface_ptr_other w Ybaf.underlying20 Ybaf.underlying59 hi hc hj hz (fun h => e (congrArg Addr.block h)) ha hb]
    have hf : (a == b) = false := by simpa using e
    rw [hf]

def slash : String := String.singleton (Char.ofNat 47)
/-- The method's full name, put together. -/
def declName : String := "exam" ++ "ple.com" ++ slash ++ "pinion" ++ slash ++ "pinion" ++ slash ++ "pkg" ++ slash ++ "types.declared"
theorem method59 (b : Nat) (w : World) : (method 297 59 (.pointer (some ⟨b, 0, none⟩)) declName).run Ybaf.prog w = .ok (42, .pointer (some ⟨b, 0, none⟩)) w := by kernel_rfl
/-- A declaration named T. -/
structure Named (w : World) (b : Nat) : Prop where
  cells : IsCells w b
  name : w.cell? ⟨b, 0, none⟩ = some (.string ⟨#[84]⟩)
/-- A row of pointers to declarations, all named T. -/
def Decls (w : World) (a : Option Addr) (N : Nat) : Prop := ∀ j, j < N → ∃ g b, a = some ⟨g, 0, none⟩ ∧ w.cell? ⟨g, j, none⟩ = some (.pointer (some ⟨b, 0, none⟩)) ∧ Named w b

theorem Named.below {w w' : World} {b B : Nat} (h : Named w b) (hb : Below B w w') (hlt : b < B) : Named w' b := by
  obtain ⟨⟨c, t, hc⟩, hn⟩ := h
  exact ⟨⟨c, t, (hb.block b hlt).trans hc⟩, (hb.cell hlt).trans hn⟩

theorem newsOf (w : World) (e : TypeId) (x : Value) (N : Nat) (hN : w.heap.size = N) : ∀ j u, [x][j]? = some u → (w.alloc (.cells #[x] e)).cell? ((⟨N, 0, none⟩ : Addr).add j) = some u := by
  subst hN
  intro j u hj
  match j, hj with
  | 0, hj => simp at hj; subst hj; simp [Addr.add]

theorem own_le {w : World} {base e size n : Nat} {v : Value} {xs : List Value} (h : w.ownsRow base e size v n xs) : ∀ k, v.ownBlock = some k → base ≤ k := by
  intro k hk
  obtain ⟨_, h | ⟨g, cap, cur, rfl, hg, _⟩⟩ := h
  · rw [h.1] at hk; simp [Value.ownBlock] at hk
  · simp [Value.ownBlock] at hk; omega

theorem repl_succ (n : Nat) (x : Value) : List.replicate n x ++ [x] = List.replicate (n + 1) x := List.replicate_succ'.symm

/-- One name more. -/
theorem cycle_step {w wr w' : World} {v : Value} {n g cap : Nat} (hB : Below w.heap.size w wr) (hO : wr.ownsRow w.heap.size 9 1 v n (List.replicate n (.string ⟨#[84]⟩)))
    (o1 : w'.ownsRow w.heap.size 9 1 (.slice (some ⟨g, 0, none⟩) (n + 1) cap) (n + 1) (List.replicate n (.string ⟨#[84]⟩) ++ [.string ⟨#[84]⟩])) (gr : (wr.alloc (.cells #[.string ⟨#[84]⟩] 9)).grownBy w' v.ownBlock) :
    w'.ownsRow w.heap.size 9 1 (.slice (some ⟨g, 0, none⟩) (n + 1) cap) (n + 1) (List.replicate (n + 1) (.string ⟨#[84]⟩)) ∧ Below w.heap.size w w' := by
  refine ⟨by rw [← repl_succ]; exact o1, (hB.alloc hB.size _).grown gr (by have := hB.size; simp; omega) (own_le hO)⟩

theorem lens_repl (n : Nat) : Lib.lens (List.replicate n [84]) = n := by
  induction n with
  | zero => rfl
  | succ n ih => rw [List.replicate_succ]; simp only [Lib.lens, List.length_cons, List.length_nil] at ih ⊢; simp at ih ⊢; omega

theorem join_names (base g c n : Nat) (w : World) (h : w.ownsRow base 9 1 (.slice (some ⟨g, 0, none⟩) (n + 1) c) (n + 1) (List.replicate (n + 1) (.string ⟨#[84]⟩))) (hn : n ≤ 256) :
    Calls Ybaf.prog 13 #[.slice (some ⟨g, 0, none⟩) (n + 1) c, .string ⟨#[32, 114, 101, 102, 101, 114, 115, 32, 116, 111, 32]⟩] w fun e w' => (∃ s, e = .returned (.string s)) ∧ Below w.heap.size w w' := by
  obtain ⟨h1, h | ⟨g', cap, cur, hv, hg, hh, h2, h3, h4, h5⟩⟩ := h
  · simp at h
  simp at hv
  obtain ⟨rfl, rfl⟩ := hv
  have hl : (List.replicate (n + 1) (⟨#[84]⟩ : ByteArray)).length = n + 1 := List.length_replicate
  have hj := Ybaf.strings_Join g 0 c (List.replicate (n + 1) ⟨#[84]⟩) ⟨#[32, 114, 101, 102, 101, 114, 115, 32, 116, 111, 32]⟩ w ?_ (Array.getElem?_eq_some_iff.1 hh).1 (by omega) (by omega) ?_
  · rw [hl] at hj
    refine hj.mono ?_
    rintro e w' ⟨rfl, hb⟩
    exact ⟨⟨_, rfl⟩, hb⟩
  · intro j x hx
    obtain ⟨hjl, rfl⟩ : j < n + 1 ∧ (⟨#[84]⟩ : ByteArray) = x := by
      rw [List.getElem?_replicate] at hx
      split at hx
      · exact ⟨by assumption, Option.some.inj hx⟩
      · cases hx
    rw [Nat.zero_add, cell_of_row _ _ _ _ _ _ hh]
    have := congrArg (fun l => l[j]?) h5
    simp only [List.getElem?_take_of_lt (show j < (n + 1) * 1 by omega), List.getElem?_replicate, if_pos hjl] at this
    simpa using this
  · rw [List.map_replicate, List.replicate_succ, Lib.join_length]
    have := lens_repl (n + 1)
    rw [List.replicate_succ] at this
    have e : (⟨#[84]⟩ : ByteArray).data.toList = [84] := rfl
    rw [e, this]
    simp
    omega

set_option maxHeartbeats 1000000 in
set_option maxRecDepth 100000 in
theorem cycle_any (a : Option Addr) (N cap d : Nat) (w : World) (hN : N ≤ 256) (hD : Decls w a N) (hd : Named w d) :
    Calls Ybaf.prog 11 #[.slice a N cap, .pointer (some ⟨d, 0, none⟩)] w fun e w' => (∃ s, e = .returned (.string s)) ∧ Below w.heap.size w w' := by
  obtain ⟨i0, hi0, hz0, hz1, hz2⟩ := info_parts Ybaf.info9
  have hN' : (N : Int) ≤ 256 := by omega
  go_enter Ybaf.func11, Ybaf.ntmps11
  go_upto_region 4 with fail
  go_loopg [5, 6, 8, 11] N (fun q s5 s6 s8 s11 wx => ∃ i n : Nat, ∃ st : Bool, i + q = N ∧ n ≤ i ∧ s11 = .int .i64 (i : Int) ∧ s6 = .bool st ∧ wx.ownsRow w.heap.size 9 1 s5 n (List.replicate n (.string ⟨#[84]⟩)) ∧ Below w.heap.size w wx)
  case atStart => exact ⟨0, 0, false, by omega, by omega, rfl, rfl, ⟨rfl, Or.inl ⟨rfl, rfl⟩⟩, Below.refl _ _⟩
  case round =>
    obtain ⟨i, n, st, hi, hn, rfl, rfl, hO, hB⟩ := hrel
    by_cases hlt : i < N
    · obtain ⟨g, b, rfl, hc, hb⟩ := hD i hlt
      have hcl := (hB.cell (p := ⟨g, i, none⟩) (World.block_lt_of_cell? w _ hc)).trans hc
      have hb2 := hb.below hB hb.cells.lt
      have hd2 := hd.below hB hd.cells.lt
      have he := eq20 wr hb2.cells hd2.cells
      have hi0' : (0 : Int) ≤ (i : Int) := by omega
      have hi1 : (i : Int) < (N : Int) := by omega
      have nm := hb2.name
      cases hbd : (b == d)
      · rw [hbd] at he
        clear hbd
        cases st
        · go_wp2_with fail
          go_roundg (gk - 1)
          case measure => omega
          case rel => exact ⟨i + 1, n, false, by omega, by omega, by go_num, rfl, hO, hB⟩
        · have md := method59
          simp [declName, slash] at md
          go_upto_region 9 with fail
          go_wp2_with (first | go_in | (at_builtin; refine wpList_append_lies _ rfl (.tmp 21) (.tmp 28) 107 rfl w.heap.size 9 i0 (.string ⟨#[]⟩) 1 16 Ybaf.underlying107 hi0 hz0 hz1 hz2 rfl (by omega) u5 n (List.replicate n (.string ⟨#[84]⟩)) rfl (hO.alloc _) ⟨wr.heap.size, 0, none⟩ 1 1 [.string ⟨#[84]⟩] rfl rfl (newsOf _ _ _ _ rfl) (by simp [Value.oneCell']) (by omega) (by unfold maxLen; omega) (by omega) (by have := hB.size; simp; omega) (wr.heap.size + 1) (by simp) ?_; intro g1 c1 v1 o1 gr1 at1 lt1))
          have hs := cycle_step hB hO o1 gr1
          go_roundg (gk - 1)
          case measure => omega
          case rel => exact ⟨i + 1, n + 1, true, by omega, by omega, by go_num, rfl, hs.1, hs.2⟩
      · rw [hbd] at he
        clear hbd
        have md := method59
        simp [declName, slash] at md
        go_upto_region 9 with fail
        go_wp2_with (first | go_in | (at_builtin; refine wpList_append_lies _ rfl (.tmp 21) (.tmp 28) 107 rfl w.heap.size 9 i0 (.string ⟨#[]⟩) 1 16 Ybaf.underlying107 hi0 hz0 hz1 hz2 rfl (by omega) u5 n (List.replicate n (.string ⟨#[84]⟩)) rfl (hO.alloc _) ⟨wr.heap.size, 0, none⟩ 1 1 [.string ⟨#[84]⟩] rfl rfl (newsOf _ _ _ _ rfl) (by simp [Value.oneCell']) (by omega) (by unfold maxLen; omega) (by omega) (by have := hB.size; simp; omega) (wr.heap.size + 1) (by simp) ?_; intro g1 c1 v1 o1 gr1 at1 lt1))
        have hs := cycle_step hB hO o1 gr1
        go_roundg (gk - 1)
        case measure => omega
        case rel => exact ⟨i + 1, n + 1, true, by omega, by omega, by go_num, rfl, hs.1, hs.2⟩
    · have hd2 := hd.below hB hd.cells.lt
      have nm := hd2.name
      have md := method59
      simp [declName, slash] at md
      have hiN : i = N := by omega
      subst hiN
      clear hi hlt
      go_upto_region 12 with (first | go_in | (at_builtin; refine wpList_append_lies _ rfl (.tmp 31) (.tmp 38) 107 rfl w.heap.size 9 i0 (.string ⟨#[]⟩) 1 16 Ybaf.underlying107 hi0 hz0 hz1 hz2 rfl (by omega) u5 n (List.replicate n (.string ⟨#[84]⟩)) rfl (hO.alloc _) ⟨wr.heap.size, 0, none⟩ 1 1 [.string ⟨#[84]⟩] rfl rfl (newsOf _ _ _ _ rfl) (by simp [Value.oneCell']) (by omega) (by unfold maxLen; omega) (by omega) (by have := hB.size; simp; omega) (wr.heap.size + 1) (by simp) ?_; intro g1 c1 v1 o1 gr1 at1 lt1))
      have hs := cycle_step hB hO o1 gr1
      go_wp2_with (first | (go_at_call 13; refine (join_names _ _ _ _ _ hs.1 (by omega)).mono ?_; rintro e w' ⟨⟨s, rfl⟩, hbj⟩))
      go_ret
      exact ⟨⟨_, rfl⟩, hs.2.trans ⟨hbj.os, hbj.tape, hbj.output, hbj.size, fun k hk => hbj.block k (Nat.lt_of_lt_of_le hk hs.2.size)⟩⟩
end Go.Proofs.YbulkaobwFmt
