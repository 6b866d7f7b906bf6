/-
  A REGION THAT DRAWS ITS ORDER, WHOSE LAST OPERATION WRITES A CELL THAT AN EARLIER ONE READS ('c.errors = append(c.errors, ..)'): the law of Derived/OrdersHeld.lean, with the condition S NOT asked behind the one operation t that waits for all that is taken first.
-/
import Derived.OrdersHeld
import Derived.RegionTactic
namespace Go.Proofs.YbulkaobwFmt
open Go

section
variable {P : Program} {ops : Array Oper} {Q : Exit → Act → World → Prop} {md : Region.Mode} {S : World → Prop} {t : Nat}

/-- Whatever order is picked from here on, and S holds behind every operation that is carried out, but for number t. -/
def wpAnyX (P : Program) (md : Region.Mode) (ops : Array Oper) (Q : Exit → Act → World → Prop) (S : World → Prop) (t : Nat) : Nat → Array Bool → Act → World → Prop
  | 0, listed, a, w => Region.ready md ops listed = [] ∧ Q .normal a w
  | fuel + 1, listed, a, w =>
    (Region.ready md ops listed = [] → Q .normal a w) ∧
    ∀ i ∈ Region.ready md ops listed, wpOp P ops Q i (fun a' w' => (i ≠ t → S w') ∧ wpAnyX P md ops Q S t fuel (listed.setIfInBounds i true) a' w') a w

theorem wpAny_of_X : ∀ (fuel : Nat) (listed : Array Bool) (a : Act) (w : World), wpAnyX P md ops Q S t fuel listed a w → wpAny P md ops Q fuel listed a w
  | 0, _, _, _, h => h
  | fuel + 1, _, _, _, h => ⟨h.1, fun i hi => wpOp_mono (fun a' w' h' => wpAny_of_X fuel _ a' w' h'.2) (h.2 i hi)⟩

/-- Number t waits for number i. -/
def waitsOn (md : Region.Mode) (ops : Array Oper) (t i : Nat) : Bool :=
  match ops[t]? with
  | some o => o.after.any fun e => Region.binds md e && e.on == i
  | none => true

theorem wpAnyX_first {i : Nat} {oi : Oper} {v : Value} (hi : ops[i]? = some oi) (hsel : ∀ (j : Nat) (o : Oper) cs b, ops[j]? = some o → o.op ≠ .select cs b)
    (hQ : ∀ c a w, Q (.panic c) (a.put oi.dst v) w → Q (.panic c) a w) (hit : i ≠ t) (hwait : waitsOn md ops t i = true) :
    ∀ (fuel : Nat) (listed : Array Bool) (a : Act) (w : World),
      (∀ j oj, ops[j]? = some oj → j ≠ i → listed.getD j true = false → (∀ e ∈ oj.after, Region.binds md e = true → e.on ≠ i) → oi.apart ops oj = true) →
      i ∈ Region.ready md ops listed → YieldsIf P ops S oi v a → S w →
      wpAnyX P md ops Q S t fuel (listed.setIfInBounds i true) (a.put oi.dst v) w → wpAnyX P md ops Q S t (fuel + 1) listed a w := by
  intro fuel
  induction fuel with
  | zero =>
    intro listed a w _ hr hy hS H
    refine ⟨fun h => (by rw [h] at hr; cases hr), fun j hj => ?_⟩
    by_cases hji : j = i
    · subst hji; exact hy.wpOp hi hS ⟨fun _ => hS, H⟩
    · have := ready_mono hj hji
      rw [H.1] at this
      cases this
  | succ fuel ih =>
    intro listed a w hfree hr hy hS H
    refine ⟨fun h => (by rw [h] at hr; cases hr), fun j hj => ?_⟩
    by_cases hji : j = i
    · subst hji; exact hy.wpOp hi hS ⟨fun _ => hS, H⟩
    · have h1 := H.2 j (ready_mono hj hji)
      obtain ⟨hjun, oj, hoj, hall⟩ := mem_ready.1 hj
      have hnot : ∀ e ∈ oj.after, Region.binds md e = true → e.on ≠ i := fun e he hb heq => by
        have h1 := hall e he hb
        have h0 := (mem_ready.1 hr).1
        rw [heq] at h1
        rcases Nat.lt_or_ge i listed.size with h' | h'
        · simp [h'] at h0 h1; rw [h0] at h1; cases h1
        · simp [Array.getElem?_eq_none h'] at h1
      have hjt : j ≠ t := fun e => by
        subst e
        unfold waitsOn at hwait
        rw [hoj] at hwait
        simp only [Array.any_eq_true] at hwait
        obtain ⟨k, hk, hb⟩ := hwait
        simp only [Bool.and_eq_true, beq_iff_eq] at hb
        exact hnot _ (Array.getElem_mem hk) hb.1 hb.2
      have h2 := wpOp_putIf hoj (hfree j oj hoj hji hjun hnot) (fun cs b => hsel i oi cs b hi) (fun cs b => hsel j oj cs b hoj) hQ hy h1
      have hfree' : ∀ k ok, ops[k]? = some ok → k ≠ i → (listed.setIfInBounds j true).getD k true = false →
          (∀ e ∈ ok.after, Region.binds md e = true → e.on ≠ i) → oi.apart ops ok = true := fun k ok hk hki hun hno => by
        refine hfree k ok hk hki ?_ hno
        by_cases hjk : j = k
        · subst hjk; exact hjun
        · rw [getD_set_ne true hjk] at hun; exact hun
      refine wpOp_mono (fun a' w' h3 => ⟨h3.2.1, ih (listed.setIfInBounds j true) a' w' hfree' (ready_mono hr (Ne.symm hji)) h3.1 (h3.2.1 hjt) ?_⟩) h2
      rw [Array.setIfInBounds_comm _ _ hji]
      exact h3.2.2

/-- Take number i first. -/
theorem wpAnyX_take (i : Nat) {oi : Oper} {v : Value} {fuel : Nat} {listed : Array Bool} {a : Act} {w : World} (hi : ops[i]? = some oi)
    (hs : Region.noSelect ops = true) (hf : Region.free md ops listed i = true) (hr : (Region.ready md ops listed).contains i = true) (hit : (i == t) = false) (hwait : waitsOn md ops t i = true)
    (hQ : ∀ c a w, Q (.panic c) (a.put oi.dst v) w → Q (.panic c) a w) (hS : S w) (hy : YieldsIf P ops S oi v a)
    (h : wpAnyX P md ops Q S t fuel (listed.setIfInBounds i true) (a.put oi.dst v) w) : wpAnyX P md ops Q S t (fuel + 1) listed a w :=
  wpAnyX_first hi (Region.noSelect_spec hs) hQ (by simpa using hit) hwait fuel listed a w (Region.free_spec hi hf) (by simpa using hr) hy hS h

/-- Number i alone may come up. -/
theorem wpAnyX_one (i : Nat) {o : Oper} {fuel : Nat} {listed : Array Bool} {a : Act} {w : World} (ho : ops[i]? = some o) (hr : Region.ready md ops listed = [i])
    (h : ∀ K' : Act → World → Prop, (∀ a' w', (i ≠ t → S w') → wpAnyX P md ops Q S t fuel (listed.setIfInBounds i true) a' w' → K' a' w') → if Region.wanted o (yielded ops a.tmps) = true then Oper.wp P o a w K' Q else K' (a.put o.dst undef) w) :
    wpAnyX P md ops Q S t (fuel + 1) listed a w := by
  refine ⟨fun h0 => (by rw [hr] at h0; cases h0), fun j hj => ?_⟩
  rw [hr] at hj
  obtain rfl : j = i := by simpa using hj
  exact wpOp_step ho fun K' hK => h K' fun a' w' h1 h2 => hK a' w' ⟨h1, h2⟩

/-- .. the operation kept behind a letter: what it is, where its value goes. -/
theorem wpAnyX_step (i : Nat) (d : Option Tmp) (op : Op) {fuel : Nat} {listed : Array Bool} {a : Act} {w : World} (ho : (ops[i]?).map (fun o => (o.dst, o.op, o.guard)) = some (d, op, none)) (hr : Region.ready md ops listed = [i])
    (h : ∀ (o : Oper) (K' : Act → World → Prop), o.dst = d → o.op = op → (∀ a' w', (i ≠ t → S w') → wpAnyX P md ops Q S t fuel (listed.setIfInBounds i true) a' w' → K' a' w') → Oper.wp P o a w K' Q) :
    wpAnyX P md ops Q S t (fuel + 1) listed a w := by
  obtain ⟨o, ho1, ho2⟩ := Option.map_eq_some_iff.1 ho
  simp only [Prod.mk.injEq] at ho2
  refine wpAnyX_one i ho1 hr fun K' hK => ?_
  have hw : Region.wanted o (yielded ops a.tmps) = true := by simp [Region.wanted, ho2.2.2]
  rw [if_pos hw]
  exact h o K' ho2.1 ho2.2.1 hK

theorem wp_value {o : Oper} {d : Option Tmp} {op : Op} {a : Act} {w w' : World} {K : Act → World → Prop} (v : Value) (hd : o.dst = d) (hop : o.op = op) (h : ∀ o' : Oper, o'.op = op → (execOp a.eval o').run P w = .ok (.value v) w') (hK : K (a.put d v) w') : Oper.wp P o a w K Q := by
  subst hd
  unfold Oper.wp
  rw [h o hop]
  exact hK
theorem wp_skip {o : Oper} {d : Option Tmp} {op : Op} {a : Act} {w w' : World} {K : Act → World → Prop} (hd : o.dst = d) (hop : o.op = op) (h : ∀ o' : Oper, o'.op = op → (execOp a.eval o').run P w = .ok .skip w') (hK : K (a.put d undef) w') : Oper.wp P o a w K Q := by
  subst hd
  unfold Oper.wp
  rw [h o hop]
  exact hK

/-- The world behind a letter, with what is known of it. -/
theorem wpAnyX_letter {fuel : Nat} {listed : Array Bool} {a : Act} {w : World} (C : World → Prop) (hw : C w) (h : ∀ w2, C w2 → wpAnyX P md ops Q S t fuel listed a w2) : wpAnyX P md ops Q S t fuel listed a w := h w hw

theorem wpAnyX_done {listed : Array Bool} {a : Act} {w : World} (hr : Region.ready md ops listed = []) (h : Q .normal a w) :
    ∀ fuel, wpAnyX P md ops Q S t fuel listed a w
  | 0 => ⟨hr, h⟩
  | _ + 1 => ⟨fun _ => h, by rw [hr]; simp⟩

theorem wp_region_X (t : Nat) (S : World → Prop) {id : Nat} {a : Act} {w : World} (hm : P.follows .mixedOrders = true)
    (h : wpAnyX P .any ops Q S t ops.size (Array.replicate ops.size false) a w.drew) : (Code.region id ops true).wp P Q a w :=
  wp_region_any hm (wpAny_of_X _ _ _ _ h)

end
end Go.Proofs.YbulkaobwFmt
