import Derived.Test.YbulkaobwImpl
import Derived.Maps.OwnSet
import Derived.Maps.StringElems
namespace Go.Proofs.Ybulkaobw
open Go.RowKit Go.Maps Go.WideMaps

/-- A SLICE OF BYTES THAT CAME IN, whatever its address: each of its elements lies where an index leads to. -/
def Row8 (w : World) (a : Option Addr) (len : Nat) (Z : Nat → Int) : Prop :=
  ∀ i, i < len → ∃ b off, a = some ⟨b, off, none⟩ ∧ b < w.heap.size ∧ w.cell? ⟨b, off + i, none⟩ = some (.int .u8 (Z i)) ∧ 0 ≤ Z i ∧ Z i ≤ 255

/-- The group that the law builds, as it lies in memory. -/
structure St (w0 w : World) (nb sb gb n : Nat) (N S : Nat → Value) : Prop where
  bel : Below w0.heap.size w0 w
  rn : w.rowIs nb 9 n N
  rs : w.rowIs sb 9 n S
  g0 : w.cell? ⟨gb, 0, none⟩ = some (.slice (some ⟨nb, 0, none⟩) n n)
  g1 : w.cell? ⟨gb, 1, none⟩ = some (.slice (some ⟨sb, 0, none⟩) n n)
  ns : nb ≠ sb
  ng : nb ≠ gb
  sg : sb ≠ gb
  bn : w0.heap.size ≤ nb
  bs : w0.heap.size ≤ sb
  bg : w0.heap.size ≤ gb

theorem St.drew {w0 w : World} {nb sb gb n : Nat} {N S : Nat → Value} (h : St w0 w nb sb gb n N S) : St w0 w.drew nb sb gb n N S :=
  ⟨h.bel.drew, h.rn.drew, h.rs.drew, h.g0, h.g1, h.ns, h.ng, h.sg, h.bn, h.bs, h.bg⟩

theorem St.drewN {w0 w : World} {nb sb gb n : Nat} {N S : Nat → Value} (h : St w0 w nb sb gb n N S) : ∀ q, St w0 (w.drewN q) nb sb gb n N S
  | 0 => h
  | q + 1 => (St.drewN h q).drew

theorem St.gblt {w0 w : World} {nb sb gb n : Nat} {N S : Nat → Value} (h : St w0 w nb sb gb n N S) : gb < w.heap.size := World.block_lt_of_cell? w _ h.g0

theorem St.grown {w0 w w' : World} {nb sb gb n : Nat} {N S : Nat → Value} (h : St w0 w nb sb gb n N S) {row : Option Nat} (hg : w.grownBy w' row) (hr : ∀ k, row = some k → w0.heap.size ≤ k ∧ k ≠ nb ∧ k ≠ sb ∧ k ≠ gb) : St w0 w' nb sb gb n N S := by
  have hz := h.bel.size
  have eb : ∀ k, k < w.heap.size → (∀ r, row = some r → r ≠ k) → w'.heap[k]? = w.heap[k]? := fun k hk hne => hg.block k hk (fun e => hne k e.symm rfl)
  refine ⟨h.bel.grown hg hz (fun k hk => (hr k hk).1), h.rn.of_block (eb _ h.rn.lt (fun r e => (hr r e).2.1)), h.rs.of_block (eb _ h.rs.lt (fun r e => (hr r e).2.2.1)), ?_, ?_, h.ns, h.ng, h.sg, h.bn, h.bs, h.bg⟩
  · exact (World.cell?_of_block (w := w) (a := ⟨gb, 0, none⟩) (eb gb h.gblt (fun r e => (hr r e).2.2.2))).trans h.g0
  · exact (World.cell?_of_block (w := w) (a := ⟨gb, 1, none⟩) (eb gb h.gblt (fun r e => (hr r e).2.2.2))).trans h.g1

theorem St.alloc {w0 w : World} {nb sb gb n : Nat} {N S : Nat → Value} (h : St w0 w nb sb gb n N S) (o : Obj) : St w0 (w.alloc o) nb sb gb n N S :=
  h.grown (World.grownBy_alloc w o none) (fun k hk => by cases hk)

theorem cell_setOther {w : World} {b o b' : Nat} {i : Nat} {v u : Value} (h : w.cell? ⟨b, o, none⟩ = some u) (hne : b ≠ b') : (w.setCell ⟨b', i, none⟩ v).cell? ⟨b, o, none⟩ = some u :=
  (World.cell?_of_block (w := w) (a := ⟨b, o, none⟩) (Below.heap_setCell w _ v b hne)).trans h

theorem cell_setOther_drew {w : World} {b o b' : Nat} {i : Nat} {v u : Value} (h : w.cell? ⟨b, o, none⟩ = some u) (hne : b ≠ b') : (w.setCell ⟨b', i, none⟩ v).drew.cell? ⟨b, o, none⟩ = some u :=
  cell_setOther h hne

theorem St.setN {w0 w : World} {nb sb gb n : Nat} {N S : Nat → Value} (h : St w0 w nb sb gb n N S) (i : Nat) (v : Value) : St w0 (w.setCell ⟨nb, i, none⟩ v) nb sb gb n (fun j => if j = i then v else N j) S :=
  ⟨h.bel.setCell h.bn v, h.rn.set i v, h.rs.setOther (fun e => h.ns e.symm) v, cell_setOther h.g0 (fun e => h.ng e.symm), cell_setOther h.g1 (fun e => h.ng e.symm), h.ns, h.ng, h.sg, h.bn, h.bs, h.bg⟩

theorem St.setS {w0 w : World} {nb sb gb n : Nat} {N S : Nat → Value} (h : St w0 w nb sb gb n N S) (i : Nat) (v : Value) : St w0 (w.setCell ⟨sb, i, none⟩ v) nb sb gb n N (fun j => if j = i then v else S j) :=
  ⟨h.bel.setCell h.bs v, h.rn.setOther h.ns v, h.rs.set i v, cell_setOther h.g0 (fun e => h.sg e.symm), cell_setOther h.g1 (fun e => h.sg e.symm), h.ns, h.ng, h.sg, h.bn, h.bs, h.bg⟩

theorem St.congr {w0 w : World} {nb sb gb n : Nat} {N S N' S' : Nat → Value} (h : St w0 w nb sb gb n N S) (e1 : ∀ i, i < n → N i = N' i) (e2 : ∀ i, i < n → S i = S' i) : St w0 w nb sb gb n N' S' :=
  ⟨h.bel, h.rn.congr e1, h.rs.congr e2, h.g0, h.g1, h.ns, h.ng, h.sg, h.bn, h.bs, h.bg⟩

theorem fill_step (f : Nat → Value) (i j : Nat) (z : Value) : (if j = i then f i else (if j < i then f j else z)) = if j < i + 1 then f j else z := by
  by_cases h : j = i
  · subst h; simp
  · by_cases h2 : j < i
    · rw [if_neg h, if_pos h2, if_pos (by omega)]
    · rw [if_neg h, if_neg h2, if_neg (by omega)]

/-- What the two makes and the box leave, in whichever order the makes came. -/
theorem St.made (w : World) (n A B : Nat) (h : (A = w.heap.size ∧ B = w.heap.size + 1) ∨ (A = w.heap.size + 1 ∧ B = w.heap.size)) (r : List Value) :
    St w (((w.alloc (Obj.cells (madeCells #[Value.string ⟨#[]⟩] n) 9)).alloc (Obj.cells (madeCells #[Value.string ⟨#[]⟩] n) 9)).alloc
      (Obj.cells (Value.slice (some ⟨A, 0, none⟩) n n :: Value.slice (some ⟨B, 0, none⟩) n n :: r).toArray 29)).drew A B (w.heap.size + 1 + 1) n (fun _ => .string ⟨#[]⟩) (fun _ => .string ⟨#[]⟩) := by
  have e1 := World.rowIs_made w (.string ⟨#[]⟩) n 9
  have e2 := World.rowIs_made (w.alloc (Obj.cells (madeCells #[Value.string ⟨#[]⟩] n) 9)) (.string ⟨#[]⟩) n 9
  have hz : (w.alloc (Obj.cells (madeCells #[Value.string ⟨#[]⟩] n) 9)).heap.size = w.heap.size + 1 := by simp
  rw [hz] at e2
  have e1' := (e1.alloc (Obj.cells (madeCells #[Value.string ⟨#[]⟩] n) 9)).alloc (Obj.cells (Value.slice (some ⟨A, 0, none⟩) n n :: Value.slice (some ⟨B, 0, none⟩) n n :: r).toArray 29)
  have e2' := e2.alloc (Obj.cells (Value.slice (some ⟨A, 0, none⟩) n n :: Value.slice (some ⟨B, 0, none⟩) n n :: r).toArray 29)
  have hbel := ((((Below.refl w.heap.size w).alloc (Nat.le_refl _) (Obj.cells (madeCells #[Value.string ⟨#[]⟩] n) 9)).alloc (by simp) (Obj.cells (madeCells #[Value.string ⟨#[]⟩] n) 9)).alloc (by simp; omega) (Obj.cells (Value.slice (some ⟨A, 0, none⟩) n n :: Value.slice (some ⟨B, 0, none⟩) n n :: r).toArray 29)).drew
  have hg : (((w.alloc (Obj.cells (madeCells #[Value.string ⟨#[]⟩] n) 9)).alloc (Obj.cells (madeCells #[Value.string ⟨#[]⟩] n) 9)).alloc (Obj.cells (Value.slice (some ⟨A, 0, none⟩) n n :: Value.slice (some ⟨B, 0, none⟩) n n :: r).toArray 29)).heap[w.heap.size + 1 + 1]? = some (Obj.cells (Value.slice (some ⟨A, 0, none⟩) n n :: Value.slice (some ⟨B, 0, none⟩) n n :: r).toArray 29) := by
    have := Go.Deep.blk_alloc_new ((w.alloc (Obj.cells (madeCells #[Value.string ⟨#[]⟩] n) 9)).alloc (Obj.cells (madeCells #[Value.string ⟨#[]⟩] n) 9)) (Obj.cells (Value.slice (some ⟨A, 0, none⟩) n n :: Value.slice (some ⟨B, 0, none⟩) n n :: r).toArray 29)
    simpa using this
  have g0 : World.cell? (((w.alloc (Obj.cells (madeCells #[Value.string ⟨#[]⟩] n) 9)).alloc (Obj.cells (madeCells #[Value.string ⟨#[]⟩] n) 9)).alloc (Obj.cells (Value.slice (some ⟨A, 0, none⟩) n n :: Value.slice (some ⟨B, 0, none⟩) n n :: r).toArray 29)) ⟨w.heap.size + 1 + 1, 0, none⟩ = some (.slice (some ⟨A, 0, none⟩) n n) := by
    simp only [World.cell?, hg]; rfl
  have g1 : World.cell? (((w.alloc (Obj.cells (madeCells #[Value.string ⟨#[]⟩] n) 9)).alloc (Obj.cells (madeCells #[Value.string ⟨#[]⟩] n) 9)).alloc (Obj.cells (Value.slice (some ⟨A, 0, none⟩) n n :: Value.slice (some ⟨B, 0, none⟩) n n :: r).toArray 29)) ⟨w.heap.size + 1 + 1, 1, none⟩ = some (.slice (some ⟨B, 0, none⟩) n n) := by
    simp only [World.cell?, hg]; rfl
  rcases h with ⟨rfl, rfl⟩ | ⟨rfl, rfl⟩
  · exact ⟨hbel, e1', e2', g0, g1, by omega, by omega, by omega, by omega, by omega, by omega⟩
  · exact ⟨hbel, e2', e1', g0, g1, by omega, by omega, by omega, by omega, by omega, by omega⟩

/-- The element that an index leads to, in a later world. -/
theorem Row8.at {w w' : World} {a : Option Addr} {len : Nat} {Z : Nat → Int} (h : Row8 w a len Z) (hb : Below w.heap.size w w') {i : Nat} (hi : i < len) :
    ∃ b off, a = some ⟨b, off, none⟩ ∧ b < w.heap.size ∧ w'.cell? ⟨b, off + i, none⟩ = some (.int .u8 (Z i)) ∧ 0 ≤ Z i ∧ Z i ≤ 255 := by
  obtain ⟨b, off, ha, hlt, hc, h0, h1⟩ := h i hi
  exact ⟨b, off, ha, hlt, (hb.cell (p := ⟨b, off + i, none⟩) hlt).trans hc, h0, h1⟩

theorem Yba.law9 : Keyed Yba.prog 9 := string_keyed Yba.underlying9
theorem Yba.zero9 (w : World) : (zeroValue 9).run Yba.prog w = .ok (.string ⟨#[]⟩) w := by kernel_rfl
theorem Yba.info9 : (Yba.prog.info? 9).map (fun i => (i.zero, i.size, i.bytes)) = some (some (.string ⟨#[]⟩), 1, 16) := by kernel_rfl

/-- 'm[k]' IN A map[string]string: what comes back. -/
theorem look_string {w : World} {b n : Nat} {D : DataW Unit} (h : w.ownsMap Yba.prog 9 (plainElem Yba.prog 9) b n D) (s : ByteArray) (hs : s.size ≤ maxLen) (v : ByteArray) (hv : D.atKey (.string s.data.toList) (.lit (.string [])) = .lit (.string v.data.toList)) :
    (Instr.lookup 31 (.map (some b)) (.string s) false).run Yba.prog w = .ok (.string v) w := by
  obtain ⟨u, ps, hrun, hu⟩ := h.lookup Yba.law9 Yba.underlying31 (Yba.zero9 w) (zd := .lit (.string [])) (zp := []) (plainElem_string Yba.underlying9 (by decide)) (keyOf_string_mk Yba.underlying9 hs)
  obtain ⟨c, rfl, hz, _⟩ := plainElem_string_inv Yba.underlying9 hu
  rw [hv] at hz
  simp only [Prod.mk.injEq, DataW.lit.injEq, Lit.string.injEq] at hz
  rw [hrun]
  have : c = v := ByteArray.ext (Array.ext' hz.1.symm)
  rw [this]

theorem look_nil_string {w : World} (s : ByteArray) (hs : s.size ≤ maxLen) : (Instr.lookup 31 (.map none) (.string s) false).run Yba.prog w = .ok (.string ⟨#[]⟩) w := by
  have := Maps.look_nil false Yba.law9 Yba.underlying31 (Yba.zero9 w) (keyOf_string_mk (P := Yba.prog) Yba.underlying9 hs)
  simpa using this

/-- What the law's own model finds under the name s among the first k pairs: the last one wins. -/
def valTo (Zk Zv : Nat → Int) : Nat → ByteArray → ByteArray
  | 0, _ => ⟨#[]⟩
  | k + 1, s => if ((pickB (Zk k)).toList == s.toList) = true then pickB (Zv k) else valTo Zk Zv k s

/-- The map that the law fills, as it lies in memory. -/
structure MapIs (w0 w : World) (mb nb sb gb j : Nat) (V : ByteArray → ByteArray) : Prop where
  own : ∃ D : DataW Unit, w.ownsMap Yba.prog 9 (plainElem Yba.prog 9) mb j D ∧ ∀ s : ByteArray, D.atKey (.string s.data.toList) (.lit (.string [])) = .lit (.string (V s).data.toList)
  bm : w0.heap.size ≤ mb
  mn : mb ≠ nb
  ms : mb ≠ sb
  mg : mb ≠ gb

theorem MapIs.drew {w0 w : World} {mb nb sb gb j : Nat} {V : ByteArray → ByteArray} (h : MapIs w0 w mb nb sb gb j V) : MapIs w0 w.drew mb nb sb gb j V :=
  ⟨h.own, h.bm, h.mn, h.ms, h.mg⟩

theorem MapIs.drewN {w0 w : World} {mb nb sb gb j : Nat} {V : ByteArray → ByteArray} (h : MapIs w0 w mb nb sb gb j V) (q : Nat) : MapIs w0 (w.drewN q) mb nb sb gb j V :=
  ⟨h.own, h.bm, h.mn, h.ms, h.mg⟩

theorem MapIs.made {w0 w : World} {nb sb gb n : Nat} {N S : Nat → Value} (hst : St w0 w nb sb gb n N S) (Zk Zv : Nat → Int) : MapIs w0 (w.alloc (.map #[] 0)) w.heap.size nb sb gb 0 (valTo Zk Zv 0) := by
  have h1 := hst.rn.lt
  have h2 := hst.rs.lt
  have h3 := hst.gblt
  exact ⟨⟨_, World.ownsMap_made w Yba.prog 9 (plainElem Yba.prog 9), fun s => by simp [valTo, DataW.atKey]⟩, hst.bel.size, by omega, by omega, by omega⟩

theorem MapIs.alloc {w0 w : World} {mb nb sb gb j : Nat} {V : ByteArray → ByteArray} (h : MapIs w0 w mb nb sb gb j V) (o : Obj) : MapIs w0 (w.alloc o) mb nb sb gb j V :=
  ⟨let ⟨D, h1, h2⟩ := h.own; ⟨D, h1.alloc o, h2⟩, h.bm, h.mn, h.ms, h.mg⟩

theorem lit_ne {s s' : ByteArray} (h : (s.toList == s'.toList) = false) : (Lit.string s'.data.toList) ≠ .string s.data.toList := by
  intro e
  simp only [Lit.string.injEq] at e
  rw [ByteArray.toList_eq, ByteArray.toList_eq, e] at h
  simp at h

theorem bytes_of_beq {s s' : ByteArray} (h : (s.toList == s'.toList) = true) : s = s' := by
  rw [beq_iff_eq, ByteArray.toList_eq, ByteArray.toList_eq] at h
  exact ByteArray.ext (Array.ext' h)

theorem MapIs.put {w0 w : World} {mb nb sb gb j n : Nat} {V : ByteArray → ByteArray} {N S : Nat → Value} (h : MapIs w0 w mb nb sb gb j V) (hst : St w0 w nb sb gb n N S) (hj : j ≤ 2000) (s v : ByteArray) (hs : s.size ≤ maxLen) (hv : v.size ≤ maxLen) :
    ∃ w', (Instr.mapUpdate 31 (.map (some mb)) (.string s) (.string v)).run Yba.prog w.drew = .ok () w' ∧
      MapIs w0 w' mb nb sb gb (j + 1) (fun s' => if (s.toList == s'.toList) = true then v else V s') ∧ St w0 w' nb sb gb n N S := by
  obtain ⟨D, hown, hat⟩ := h.own
  obtain ⟨w', hrun, hown', hgrow⟩ := hown.drew.update Yba.law9 Yba.underlying31 (by unfold maxLen; omega) (keyOf_string_mk (P := Yba.prog) Yba.underlying9 hs) (plainElem_string Yba.underlying9 hv)
  refine ⟨w', hrun, ⟨⟨_, hown', fun s' => ?_⟩, h.bm, h.mn, h.ms, h.mg⟩, hst.drew.grown hgrow (fun k hk => by cases hk; exact ⟨h.bm, h.mn, h.ms, h.mg⟩)⟩
  cases e : (s.toList == s'.toList)
  · rw [atKey_put_other (lit_ne e), hat]; simp
  · obtain rfl := bytes_of_beq e
    rw [atKey_put_same (k := .string s.data.toList) hown.isMap trivial]
    simp

/-- What a look-up gives. -/
theorem MapIs.look {w0 w : World} {mb nb sb gb j : Nat} {V : ByteArray → ByteArray} (h : MapIs w0 w mb nb sb gb j V) (s : ByteArray) (hs : s.size ≤ maxLen) :
    (Instr.lookup 31 (.map (some mb)) (.string s) false).run Yba.prog w = .ok (.string (V s)) w := by
  obtain ⟨D, hown, hat⟩ := h.own
  exact look_string hown s hs (V s) (hat s)

theorem pickB_size (z : Int) : (pickB z).size ≤ maxLen := by
  unfold pickB maxLen
  split
  · decide
  · split
    · decide
    · split <;> decide
end Go.Proofs.Ybulkaobw
