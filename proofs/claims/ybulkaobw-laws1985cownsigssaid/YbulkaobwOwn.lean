import Derived.Test.YbulkaobwState
import Derived.Deep.RegionHeld3
import Derived.Deep.DeepCutAuto
import Derived.Deep.CutBlock
import Derived.RegionTactic
import Derived.BigRegion
import Derived.Outline
import Derived.Deep.Light
namespace Go.Proofs.Ybulkaobw
open Go.RowKit Go.Maps Go.WideMaps Go.ChangeShapes Go.WideShapes Go.ChangeAt

/-- The i-th name. -/
def nmB (i : Nat) : ByteArray := ⟨#[110, UInt8.ofNat i, UInt8.ofNat (i / 256)]⟩

/-- What the law's map holds under s behind i rounds. -/
def valN (Z : Nat → Int) : Nat → ByteArray → ByteArray
  | 0, _ => ⟨#[]⟩
  | i + 1, s => if ((nmB i).toList == s.toList) = true then pickB (Z i) else valN Z i s

theorem MapIs.madeN {w0 w : World} {nb sb gb n : Nat} {N S : Nat → Value} (hst : St w0 w nb sb gb n N S) : MapIs w0 (w.alloc (.map #[] 0)) w.heap.size nb sb gb 0 (fun _ => ⟨#[]⟩) :=
  MapIs.made hst (fun _ => 0) (fun _ => 0)

theorem MapIs.store {w0 w : World} {mb nb sb gb j n : Nat} {V : ByteArray → ByteArray} {N S : Nat → Value} (h : MapIs w0 w mb nb sb gb j V) (hst : St w0 w nb sb gb n N S) (hj : j ≤ 2000) (s v : ByteArray) (hs : s.size ≤ maxLen) (hv : v.size ≤ maxLen) :
    ∃ w', (Instr.mapUpdate 31 (.map (some mb)) (.string s) (.string v)).run Yba.prog w = .ok () w' ∧
      MapIs w0 w' mb nb sb gb (j + 1) (fun s' => if (s.toList == s'.toList) = true then v else V s') ∧ St w0 w' nb sb gb n N S := by
  obtain ⟨D, hown, hat⟩ := h.own
  obtain ⟨w', hrun, hown', hgrow⟩ := hown.update Yba.law9 Yba.underlying31 (by unfold maxLen; omega) (keyOf_string_mk (P := Yba.prog) Yba.underlying9 hs) (plainElem_string Yba.underlying9 hv)
  refine ⟨w', hrun, ⟨⟨_, hown', fun s' => ?_⟩, h.bm, h.mn, h.ms, h.mg⟩, hst.grown hgrow (fun k hk => by cases hk; exact ⟨h.bm, h.mn, h.ms, h.mg⟩)⟩
  cases e : (s.toList == s'.toList)
  · rw [atKey_put_other (lit_ne e), hat]; simp
  · obtain rfl := bytes_of_beq e
    rw [atKey_put_same (k := .string s.data.toList) hown.isMap trivial]
    simp

theorem MapIs.setCell {w0 w : World} {mb nb sb gb j : Nat} {V : ByteArray → ByteArray} (h : MapIs w0 w mb nb sb gb j V) {b i : Nat} (hb : mb ≠ b) (v : Value) : MapIs w0 (w.setCell ⟨b, i, none⟩ v) mb nb sb gb j V :=
  ⟨let ⟨D, h1, h2⟩ := h.own; ⟨D, h1.setCell (a := ⟨b, i, none⟩) hb v, h2⟩, h.bm, h.mn, h.ms, h.mg⟩

theorem nm_cells (i : Nat) (hi : i ≤ 1024) : #[Value.int .u8 110, Value.int .u8 ((i : Int) % 256), Value.int .u8 ((i : Int) / 256)] = ([110, UInt8.ofNat i, UInt8.ofNat (i / 256)].map (fun b : UInt8 => Value.int .u8 (b.toNat : Int))).toArray := by
  have e1 : (UInt8.ofNat i).toNat = i % 256 := by simp
  have e2 : (UInt8.ofNat (i / 256)).toNat = i / 256 := by
    rw [UInt8.toNat_ofNat']
    omega
  simp only [List.map_cons, List.map_nil, e1, e2]
  rfl

theorem nmB_size (i : Nat) : (nmB i).size ≤ maxLen := by
  have : (nmB i).size = 3 := rfl
  rw [this]
  unfold maxLen
  decide

theorem nmB_inj {i j : Nat} (hi : i ≤ 1024) (hj : j ≤ 1024) (h : ((nmB i).toList == (nmB j).toList) = true) : i = j := by
  have e := bytes_of_beq h
  unfold nmB at e
  simp only [ByteArray.mk.injEq, Array.mk.injEq, List.cons.injEq, and_true, true_and] at e
  obtain ⟨e1, e2⟩ := e
  have e1' := congrArg UInt8.toNat e1
  have e2' := congrArg UInt8.toNat e2
  simp only [UInt8.toNat_ofNat'] at e1' e2'
  omega

theorem valN_at (Z : Nat → Int) {j : Nat} : ∀ {i : Nat}, i ≤ 1025 → j < i → valN Z i (nmB j) = pickB (Z j)
  | 0, _, h => absurd h (Nat.not_lt_zero _)
  | i + 1, hi, h => by
    unfold valN
    by_cases e : ((nmB i).toList == (nmB j).toList) = true
    · rw [if_pos e, nmB_inj (by omega) (by omega) e]
    · rw [if_neg e]
      refine valN_at Z (by omega) ?_
      have : j ≠ i := fun h => e (by rw [h]; simp)
      omega

theorem own_all (Z : Nat → Int) (n : Nat) (hn : n ≤ 1024) : allEq (fun j => valN Z n (nmB j)) (fun j => pickB (Z j)) n = true :=
  allEq_true fun i hi => by rw [valN_at Z (by omega) hi]; simp

theorem plus_ne (a b : ByteArray) (h : b.size ≠ 0) : ((a ++ b).toList == a.toList) = false := by
  cases e : ((a ++ b).toList == a.toList)
  · rfl
  · have := congrArg ByteArray.size (bytes_of_beq e)
    rw [ByteArray.size_append] at this
    omega

theorem own_flip (Z : Nat → Int) (n f : Nat) (hf : f < n) :
    allEq (fun j => if ((nmB f).toList == (nmB j).toList) = true then pickB (Z f) ++ ⟨#[33]⟩ else valN Z n (nmB j)) (fun j => pickB (Z j)) n = false :=
  allEq_false hf (by
    show ((if ((nmB f).toList == (nmB f).toList) = true then pickB (Z f) ++ ⟨#[33]⟩ else valN Z n (nmB f)).toList == (pickB (Z f)).toList) = false
    rw [if_pos (by simp)]
    exact plus_ne _ _ (by decide))

/-- 'string([]byte{..})'. -/
theorem conv_nm (wr : World) (i : Nat) (hi : i ≤ 1024) :
    (convert 22 9 (.slice (some ⟨wr.heap.size, 0, none⟩) 3 3)).run Yba.prog (wr.alloc (.cells #[.int .u8 110, .int .u8 ((i : Int) % 256), .int .u8 ((i : Int) / 256)] 5)) =
      .ok (.string (nmB i)) (wr.alloc (.cells #[.int .u8 110, .int .u8 ((i : Int) % 256), .int .u8 ((i : Int) / 256)] 5)) := by
  refine run_convert_bytes_back _ 22 9 5 _ 3 [110, UInt8.ofNat i, UInt8.ofNat (i / 256)] Yba.underlying22 Yba.underlying5 Yba.underlying9 ?_
  intro j hj
  rw [add_plain, Nat.zero_add, World.cell?_alloc_mark, nm_cells i hi]
  simp only [List.getElem?_toArray, List.getElem?_map]
  rw [List.getElem?_eq_getElem hj]
  rfl

theorem plus_sum (z : Int) : (pickB z).size + (⟨#[33]⟩ : ByteArray).size ≤ 9223372036854775807 := by
  have h1 : (pickB z).size ≤ 1 := by
    unfold pickB
    split
    · decide
    · split
      · decide
      · split <;> decide
  have h2 : (⟨#[33]⟩ : ByteArray).size = 1 := rfl
  omega

theorem plus_size (z : Int) : (pickB z ++ ⟨#[33]⟩).size ≤ maxLen := by
  rw [ByteArray.size_append]
  have := plus_sum z
  unfold maxLen
  omega

theorem MapIs.mono {w0 w : World} {mb nb sb gb j k : Nat} {V : ByteArray → ByteArray} (h : MapIs w0 w mb nb sb gb j V) (hk : j ≤ k) : MapIs w0 w mb nb sb gb k V :=
  ⟨let ⟨D, h1, h2⟩ := h.own; ⟨D, h1.mono hk, h2⟩, h.bm, h.mn, h.ms, h.mg⟩

set_option maxHeartbeats 1000000 in
set_option maxRecDepth 100000 in
theorem own_walk (a0 : Option Addr) (l0 c0 : Nat) (Z0 : Nat → Int) (fl : Int) (w : World)
    (r0 : Row8 w a0 l0 Z0) (h0 : l0 ≤ 1024) (f0 : 0 ≤ fl) (f1 : fl ≤ 255) :
    Calls Yba.prog 4 #[.slice a0 l0 c0, .int .u8 fl] w fun e w' => e = .returned (.bool true) ∧ Below w.heap.size w w' := by
  obtain ⟨f, rfl⟩ := Int.eq_ofNat_of_zero_le f0
  have hmk := run_make_row' (P := Yba.prog) 24 9 (.string ⟨#[]⟩) 16 Yba.underlying24 Yba.info9 rfl .i64 .i64 l0 (by omega) (by omega)
  go_enter Yba.func4, Yba.ntmps4
  go_upto_region 4 with fail
  go_cut [6] (fun s6 wx => ∃ nb sb gb : Nat, s6 = .pointer (some ⟨gb, 0, none⟩) ∧ St w wx nb sb gb l0 (fun _ => .string ⟨#[]⟩) (fun _ => .string ⟨#[]⟩))
  case first =>
    go_region
    · go_wp2_with fail
      go_meet
      case rel => exact ⟨_, _, _, rfl, St.made w l0 _ _ (Or.inl ⟨rfl, rfl⟩) _⟩
    · go_wp2_with fail
      go_meet
      case rel => exact ⟨_, _, _, rfl, St.made w l0 _ _ (Or.inr ⟨rfl, rfl⟩) _⟩
  case rest =>
  obtain ⟨nb, sb, gb, rfl, hst⟩ := hcut
  clear hmk
  have hmm := @run_makeMap Yba.prog
  go_wp2_with fail
  have hst1 := hst.alloc (.map #[] 0)
  have hmp := MapIs.madeN hst
  generalize wc.heap.size = mb at hmp ⊢
  generalize wc.alloc (.map #[] 0) = wm at hst1 hmp ⊢
  clear hst hmm
  go_loopg [8] l0 (fun gk s8 wx => ∃ i : Nat, i + gk = l0 ∧ s8 = .int .i64 i ∧ St w wx nb sb gb l0 (fun j => if j < i then .string (nmB j) else .string ⟨#[]⟩) (fun j => if j < i then .string (pickB (Z0 j)) else .string ⟨#[]⟩) ∧ MapIs w wx mb nb sb gb i (valN Z0 i))
  case atStart => exact ⟨0, by omega, rfl, hst1.congr (by simp) (by simp), hmp⟩
  case round =>
    clear hst1 hmp
    obtain ⟨i, hi, rfl, hst, hmp⟩ := hrel
    by_cases hlt : i < l0
    · obtain ⟨b0, o0, rfl, hb0, hc0, z00, z01⟩ := r0.at hst.bel (i := i) (by omega)
      have hi0 : (0 : Int) ≤ (i : Int) := by omega
      have hi1 : (i : Int) < (l0 : Int) := by omega
      have hcv := conv_nm wr i (by omega)
      have hst1 := hst.alloc (.cells #[.int .u8 110, .int .u8 ((i : Int) % 256), .int .u8 ((i : Int) / 256)] 5)
      have hg0 := hst1.g0
      have hcn := hst1.rn.cell hlt
      have hfn := hst1.rn.frozen i
      simp only [Nat.lt_irrefl, if_false] at hcn
      go_wp2_with fail
      have hst2 := hst1.setN i (.string (nmB i))
      have hmp2 := (hmp.alloc (.cells #[.int .u8 110, .int .u8 ((i : Int) % 256), .int .u8 ((i : Int) / 256)] 5)).setCell (i := i) hmp.mn (.string (nmB i))
      generalize ((wr.alloc (.cells #[.int .u8 110, .int .u8 ((i : Int) % 256), .int .u8 ((i : Int) / 256)] 5)).setCell ⟨nb, i, none⟩ (.string (nmB i))) = w2 at hst2 hmp2 ⊢
      clear hst hst1 hmp hcv hg0 hcn hfn hc0
      have hc0 := (r0.at hst2.bel (i := i) hlt)
      obtain ⟨b0', o0', e0, _, hc0, _, _⟩ := hc0
      obtain ⟨rfl, rfl⟩ : b0 = b0' ∧ o0 = o0' := by simpa using e0
      clear e0
      have hg1 := hst2.g1
      have hcs := hst2.rs.cell hlt
      have hfs := hst2.rs.frozen i
      have ne2 : gb ≠ sb := fun e => hst2.sg e.symm
      have ne4 : b0 ≠ sb := by have := hst2.bs; omega
      simp only [Nat.lt_irrefl, if_false] at hcs
      go_region_held3 (fun w' => w'.cell? ⟨gb, 1, none⟩ = some (.slice (some ⟨sb, 0, none⟩) l0 l0) ∧ w'.cell? ⟨b0, o0 + i, none⟩ = some (.int .u8 (Z0 i)))
        (first | exact ⟨hg1, hc0⟩ | exact ⟨cell_setOther_drew hg1 ne2, cell_setOther_drew hc0 ne4⟩)
        (first | (go_at_call 5; refine (pick_any _ _ z00 z01).mono ?_; rintro e w' ⟨rfl, rfl⟩))
      have hst3 := (hst2.setS i (.string (pickB (Z0 i)))).drew
      have hmp3 := (hmp2.setCell (i := i) hmp2.ms (.string (pickB (Z0 i)))).drew
      generalize (w2.setCell ⟨sb, i, none⟩ (.string (pickB (Z0 i)))).drew = w3 at hst3 hmp3 ⊢
      clear hst2 hmp2 hg1 hcs hfs hc0
      have hg1 := hst3.g1
      have hcs := hst3.rs.cell hlt
      simp only [if_true] at hcs
      obtain ⟨w4, hrun, hmp4, hst4⟩ := hmp3.store hst3 (by omega) (nmB i) (pickB (Z0 i)) (nmB_size _) (pickB_size _)
      go_wp2_with fail
      clear hrun hst3 hmp3 hg1 hcs
      go_roundg (gk - 1)
      case measure => omega
      case rel =>
        refine ⟨i + 1, by omega, by go_num, hst4.congr ?_ ?_, hmp4⟩
        · exact fun j _ => fill_step (fun j => .string (nmB j)) i j _
        · exact fun j _ => fill_step (fun j => .string (pickB (Z0 j))) i j _
    · have hin : i = l0 := by omega
      subst hin
      have hst0 := hst.congr (N' := fun j => .string (nmB j)) (S' := fun j => .string (pickB (Z0 j))) (fun j hj => if_pos hj) (fun j hj => if_pos hj)
      clear hst hi hlt
      go_upto_if 68 with fail
      go_cut [11] (fun s11 wx => St w wx nb sb gb i (fun j => .string (nmB j)) (fun j => .string (pickB (Z0 j))) ∧
        ∃ V, MapIs w wx mb nb sb gb (i + 1) V ∧ s11 = .bool (allEq (fun j => V (nmB j)) (fun j => pickB (Z0 j)) i))
      case first =>
        by_cases hf : (f : Int) < (i : Int)
        · have hf' : f < i := by omega
          have hg0 := hst0.g0
          have hg1 := hst0.g1
          have hcn := hst0.rn.cell hf'
          have hcs := hst0.rs.cell hf'
          obtain ⟨w', hrun, hmp', hst'⟩ := hmp.drew.store hst0.drew (by omega) (nmB f) (pickB (Z0 f) ++ ⟨#[33]⟩) (nmB_size _) (plus_size _)
          have hg0' := hst'.g0
          have hg1' := hst'.g1
          have hcn' := hst'.rn.cell hf'
          have hcs' := hst'.rs.cell hf'
          have hadd := fun wx => run_string_add_sum (P := Yba.prog) wx (pickB (Z0 f)) ⟨#[33]⟩ (plus_sum _)
          go_wp2_with fail
          go_region_held3 (fun w' => w'.cell? ⟨gb, 0, none⟩ = some (.slice (some ⟨nb, 0, none⟩) i i) ∧ w'.cell? ⟨gb, 1, none⟩ = some (.slice (some ⟨sb, 0, none⟩) i i) ∧ w'.cell? ⟨nb, f, none⟩ = some (.string (nmB f)) ∧ w'.cell? ⟨sb, f, none⟩ = some (.string (pickB (Z0 f))))
            (first | exact ⟨hg0, hg1, hcn, hcs⟩ | exact ⟨hg0', hg1', hcn', hcs'⟩)
            (fail)
          go_wp2_with fail
          go_meet
          case rel => exact ⟨hst', _, hmp', congrArg Value.bool (own_flip Z0 i f hf').symm⟩
        · go_wp2_with fail
          go_meet
          case rel => exact ⟨hst0, valN Z0 i, hmp.mono (by omega), congrArg Value.bool (own_all Z0 i (by omega)).symm⟩
      case rest =>
      obtain ⟨hst1, V, hmp1, rfl⟩ := hcut
      clear hst0 hmp
      go_wp2_with fail
      obtain ⟨o, ho⟩ : ∃ o, o = Obj.cells #[.nilIface, .slice none 0 0, .int .i64 0, .string ⟨#[]⟩, .bool false, .pointer none, .nilIface, .map (some mb), .slice none 0 0, .pointer none, .int .i64 0, .slice none 0 0, .map none] 42 := ⟨_, rfl⟩
      rw [← ho]
      have ht7 : (wc.alloc o).cell? ⟨wc.heap.size, 7, none⟩ = some (.map (some mb)) := by rw [ho]; simp
      have hst2 := hst1.alloc o
      have hmp2 := hmp1.alloc o
      clear hst1 hmp1 ho
      generalize wc.heap.size = tb at ht7 ⊢
      generalize wc.alloc o = W at ht7 hst2 hmp2 ⊢
      refine (impl_any gb tb nb sb i i i (some mb) nmB (fun j => pickB (Z0 j)) (fun j => V (nmB j)) W (by omega) hst2.g0 hst2.g1 ht7 (fun j hj => hst2.rn.cell hj) (fun j hj => hst2.rs.cell hj) (fun j q _ => (hmp2.drewN q).look (nmB j) (nmB_size _))).mono ?_
      rintro e w' ⟨rfl, q, rfl⟩
      go_wp2_with fail
      go_ret
      exact ⟨ret_bool (by simp), (hst2.drewN q).bel⟩
end Go.Proofs.Ybulkaobw
