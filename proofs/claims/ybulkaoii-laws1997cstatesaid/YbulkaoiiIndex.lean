import Derived.Test.YbulkaoiiState
import Derived.Maps.Range
namespace Go.Proofs.Ybulkaoii
open Go.RowKit Go.Maps Go.WideMaps
set_option linter.unusedVariables false

/-- THE INDEX's FIXED PART, as it lies in memory. -/
structure Fx (w : World) (n xb cb kb wb sb : Nat) (last : Bool) (rb ln : Nat → Nat) (K : Nat → Nat → ByteArray) (W : ByteArray → Bool) : Prop where
  x0 : w.cell? ⟨xb, 0, none⟩ = some (.iface 66 (.pointer (some ⟨cb, 0, none⟩)))
  x1 : w.cell? ⟨xb, 1, none⟩ = some (.bool last)
  x2 : w.cell? ⟨xb, 2, none⟩ = some (.map (some wb))
  x3 : w.cell? ⟨xb, 3, none⟩ = some (.slice (some ⟨sb, 0, none⟩) n n)
  c0 : w.cell? ⟨cb, 0, none⟩ = some (.slice (some ⟨kb, 0, none⟩) n n)
  kk : ∀ i, i < n → w.cell? ⟨kb, i, none⟩ = some (.slice (some ⟨rb i, 0, none⟩) (ln i) (ln i))
  rr : ∀ i, i < n → ∀ j, j < ln i → w.cell? ⟨rb i, j, none⟩ = some (.string (K i j))
  wt : ∃ m, WtIs w wb m W
  xs : xb ≠ sb
  cs : cb ≠ sb
  ks : kb ≠ sb
  rs : ∀ i, i < n → rb i ≠ sb
  ws : wb ≠ sb

theorem Fx.kept {w w' : World} {n xb cb kb wb sb : Nat} {last : Bool} {rb ln : Nat → Nat} {K : Nat → Nat → ByteArray} {W : ByteArray → Bool} (h : Fx w n xb cb kb wb sb last rb ln K W) (hg : w.grownBy w' (some sb)) : Fx w' n xb cb kb wb sb last rb ln K W := by
  have e : ∀ {b : Nat}, b ≠ sb → some b ≠ some sb := fun h e => h (Option.some.inj e)
  exact ⟨hg.cell h.x0 (e h.xs), hg.cell h.x1 (e h.xs), hg.cell h.x2 (e h.xs), hg.cell h.x3 (e h.xs), hg.cell h.c0 (e h.cs), fun i hi => hg.cell (h.kk i hi) (e h.ks), fun i hi j hj => hg.cell (h.rr i hi j hj) (e (h.rs i hi)),
    let ⟨m, hm⟩ := h.wt; ⟨m, hm.kept hg (e h.ws)⟩, h.xs, h.cs, h.ks, h.rs, h.ws⟩

def slash : String := String.singleton (Char.ofNat 47)
/-- The methods' full names, put together. -/
def inPkg (s : String) : String := "exam" ++ "ple.com" ++ slash ++ "ini-into-one" ++ slash ++ "ini-into-one" ++ slash ++ "pkg" ++ slash ++ s
theorem meth_count (a : Addr) (w : World) : (method 205 66 (.pointer (some a)) (inPkg "inione.optionCount")).run Yba.prog w = .ok (44, .pointer (some a)) w := by kernel_rfl
theorem meth_option (a : Addr) (w : World) : (method 205 66 (.pointer (some a)) (inPkg "inione.option")).run Yba.prog w = .ok (43, .pointer (some a)) w := by kernel_rfl

theorem field_key (s : ByteArray) (z : Int) (w : World) : (Instr.field 74 (.agg #[.string s, .string ⟨#[]⟩, .string ⟨#[]⟩, .int .i64 z]) 0).run Yba.prog w = .ok (.string s) w := by kernel_rfl

theorem begun (w : World) (n sb i pb : Nat) (c : Bool) (F : Nat → Value) (hrow : w.rowIs sb 57 (n * 2) F) (hp : pb = w.heap.size) :
    w.grownBy (((w.setCell ⟨sb, i * 2, none⟩ (.map (some pb))).setCell ⟨sb, i * 2 + 1, none⟩ (.bool c)).alloc (.map #[] 0)) (some sb) ∧
    (((w.setCell ⟨sb, i * 2, none⟩ (.map (some pb))).setCell ⟨sb, i * 2 + 1, none⟩ (.bool c)).alloc (.map #[] 0)).rowIs sb 57 (n * 2) (fun j => if j = i * 2 + 1 then .bool c else if j = i * 2 then .map (some pb) else F j) ∧
    PlIs (((w.setCell ⟨sb, i * 2, none⟩ (.map (some pb))).setCell ⟨sb, i * 2 + 1, none⟩ (.bool c)).alloc (.map #[] 0)) pb 0 (fun _ => (0, false)) := by
  refine ⟨((grownBy_setCell w ⟨sb, i * 2, none⟩ _).trans (grownBy_setCell _ ⟨sb, i * 2 + 1, none⟩ _)).trans (World.grownBy_alloc _ _ _), ((hrow.set _ _).set _ _).alloc _, ?_⟩
  have := PlIs.made ((w.setCell ⟨sb, i * 2, none⟩ (.map (some pb))).setCell ⟨sb, i * 2 + 1, none⟩ (.bool c))
  have e : ((w.setCell ⟨sb, i * 2, none⟩ (.map (some pb))).setCell ⟨sb, i * 2 + 1, none⟩ (.bool c)).heap.size = pb := by rw [hp]; simp [World.setCell]
  rw [e] at this
  exact this

set_option maxHeartbeats 1000000 in
theorem index_any (n xb cb kb wb sb i : Nat) (last wo : Bool) (rb ln : Nat → Nat) (K : Nat → Nat → ByteArray) (W : ByteArray → Bool) (F : Nat → Value) (w : World) (hf : Fx w n xb cb kb wb sb last rb ln K W) (hi : i < n) (hl : ln i ≤ 256) (hs : ∀ j, (K i j).size ≤ maxLen)
    (hrow : w.rowIs sb 57 (n * 2) F) :
    Calls Yba.prog 16 #[.pointer (some ⟨xb, 0, none⟩), .int .i64 i, .bool wo] w fun e w' => e = .returned (.tuple #[]) ∧ w.grownBy w' (some sb) ∧ ∃ pb, w.heap.size ≤ pb ∧ (∃ m, PlIs w' pb m (held (K i) last wo W (ln i))) ∧
      w'.rowIs sb 57 (n * 2) (fun j => if j = i * 2 + 1 then .bool (!wo) else if j = i * 2 then .map (some pb) else F j) := by
  have h0 : (0 : Int) ≤ (i : Int) := by omega
  have h1 : (i : Int) < (n : Int) := by omega
  have x3 := hf.x3
  have hc0 := hrow.cell (i := i * 2) (by omega)
  have hc1 := hrow.cell (i := i * 2 + 1) (by omega)
  have hf0 := hrow.frozen (i * 2)
  have hf1 := hrow.frozen (i * 2 + 1)
  have hsb := hrow.lt
  have hmm := @run_makeMap Yba.prog
  go_enter Yba.func16, Yba.ntmps16
  go_upto_region 2 with fail
  obtain ⟨hg, hr, hp⟩ := begun w n sb i w.heap.size (!wo) F hrow rfl
  have hpb : w.heap.size ≤ w.heap.size := Nat.le_refl _
  generalize ((w.setCell ⟨sb, i * 2, none⟩ (.map (some w.heap.size))).setCell ⟨sb, i * 2 + 1, none⟩ (.bool !wo)).alloc (.map #[] 0) = w1 at hg hr hp ⊢
  clear hc0 hc1 hf0 hf1 hmm x3 hrow
  have hf1 := hf.kept hg
  have x0 := hf1.x0
  have c0 := hf1.c0
  have kk := hf1.kk i hi
  have hm1 := meth_count ⟨cb, 0, none⟩
  simp [inPkg, slash] at hm1
  go_wp2_with (first | (go_at_call 44; refine (optionCount_any cb kb n n i _ _ _ _ hi c0 kk).mono ?_; rintro e w' ⟨rfl, rfl⟩))
  clear x0 c0 kk hm1 hf1 hpb
  generalize hpb : w.heap.size = pb at hp hr ⊢
  have hm2 := meth_option ⟨cb, 0, none⟩
  simp [inPkg, slash] at hm2
  go_loopg [32] (ln i) (fun gk s32 wx => ∃ j : Nat, j + gk = ln i ∧ s32 = .int .i64 j ∧ w.grownBy wx (some sb) ∧ wx.rowIs sb 57 (n * 2) (fun j => if j = i * 2 + 1 then .bool (!wo) else if j = i * 2 then .map (some pb) else F j) ∧ ∃ m, m ≤ j ∧ PlIs wx pb m (held (K i) last wo W j))
  case atStart => exact ⟨0, by omega, rfl, hg, hr, 0, Nat.le_refl _, hp.congr (fun s => by unfold held; split <;> rfl)⟩
  case round =>
    clear hg hr hp
    obtain ⟨j, hj, rfl, hg, hr, m, hmj, hp⟩ := hrel
    by_cases hlt : j < ln i
    · have j0 : (0 : Int) ≤ (j : Int) := by omega
      have j1 : (j : Int) < (ln i : Int) := by omega
      have hfx := hf.kept hg
      have x0 := hfx.x0
      have c0 := hfx.c0
      have kk := hfx.kk i hi
      have rr := hfx.rr i hi j hlt
      have hfk := field_key (K i j) (wrap64 ((j : Int) + 1))
      go_upto_region 6 with (first | (go_at_call 43; refine (option_any cb kb n n i j _ _ _ _ _ hi hlt c0 kk rr).mono ?_; rintro e w' ⟨rfl, hgo⟩))
      replace hg := hg.trans (hgo.but (some sb))
      replace hr := hr.of_block (hgo.block sb hr.lt (by simp))
      replace hp := hp.kept hgo (by simp)
      clear hfx x0 c0 kk rr hgo hfk hm2
      have hfx := hf.kept hg
      have x1 := hfx.x1
      have x2 := hfx.x2
      obtain ⟨mw, hw⟩ := hfx.wt
      have lk := hw.look (K i j) (hs j)
      have lp := hp.look (K i j) (hs j)
      have hc := hr.cell (i := i * 2) (by omega)
      have hc' : w'.cell? ⟨sb, i * 2, none⟩ = some (.map (some pb)) := by rw [hc]; simp
      clear hc
      cases hskip : (wo && !W (K i j))
      · have hcase : wo = false ∨ (wo = true ∧ W (K i j) = true) := by
          cases wo
          · exact Or.inl rfl
          · exact Or.inr ⟨rfl, by simpa using hskip⟩
        obtain ⟨w2, hrun, hp2, hg2⟩ := hp.put (by omega) (K i j) (hs j) j (by omega)
        have hg3 : w.grownBy w2 (some sb) := hg.andThen hg2 (fun k hk => Or.inl (by cases hk; omega))
        have hr3 := hr.of_block (hg2.block sb hr.lt (by intro e; cases e; omega))
        rcases hcase with rfl | ⟨rfl, hww⟩
        case' inr => rw [hww] at lk
        all_goals
          cases hseen : (held (K i) last _ W j (K i j)).2
          · rw [hseen] at lp
            have hput := held_put (last := last) hskip (by rw [hseen]; rfl)
            clear hseen
            go_wp2_with fail
            go_roundg (gk - 1)
            case measure => omega
            case rel => exact ⟨j + 1, by omega, by go_num, hg3, hr3, m + 1, by omega, hp2.congr hput⟩
          · cases last
            · rw [hseen] at lp
              have hput := held_seen hseen
              clear hseen
              go_wp2_with fail
              go_roundg (gk - 1)
              case measure => omega
              case rel => exact ⟨j + 1, by omega, by go_num, hg, hr, m, by omega, hp.congr hput⟩
            · rw [hseen] at lp
              have hput := held_put (last := true) hskip (by simp)
              clear hseen
              go_wp2_with fail
              go_roundg (gk - 1)
              case measure => omega
              case rel => exact ⟨j + 1, by omega, by go_num, hg3, hr3, m + 1, by omega, hp2.congr hput⟩
      · obtain ⟨hwo, hww⟩ : wo = true ∧ W (K i j) = false := by simpa using hskip
        subst hwo
        rw [hww] at lk
        go_wp2_with fail
        go_roundg (gk - 1)
        case measure => omega
        case rel => exact ⟨j + 1, by omega, by go_num, hg, hr, m, by omega, hp.congr (held_skip hskip)⟩
    · have hjn : j = ln i := by omega
      subst hjn
      go_wp2_with fail
      go_end0
      exact ⟨rfl, hg, pb, by omega, ⟨m, hp⟩, hr⟩
end Go.Proofs.Ybulkaoii
