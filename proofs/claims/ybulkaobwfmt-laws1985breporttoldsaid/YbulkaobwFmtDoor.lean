import Derived.Test.YbulkaobwFmtRows
import Derived.WalkKit
import Derived.WalkSpells
import Derived.ProofKit
import Derived.Stop.CallBack
import Derived.Stop.IfaceNil
namespace Go.Proofs.YbulkaobwFmt
open Go.RowKit Go.Extern.Stop Go.Stop Go.Extern

theorem Ybaf.call12 (args : Array Value) (w : World) : (callFunc 12 args).run Ybaf.prog w = (FmtCalls.sprintf #[9, 89] #[9] args).run Ybaf.prog w :=
  run_callFunc_next Ybaf.func12 (by kernel_rfl) (by kernel_rfl) (by kernel_rfl) args w
theorem Ybaf.guard (name : String) (w : World) : (FmtStop.guard name).run Ybaf.prog w = .ok () w := by kernel_rfl
theorem Ybaf.nextTurns : Extern.next FmtCalls.turnsRow = some (FmtCalls.begun #[] #[]) := by kernel_rfl
-- "redeclaring the predeclared identifier %s is not supported"
theorem Ybaf.fmt0 : FmtStop.printed? ⟨#[114, 101, 100, 101, 99, 108, 97, 114, 105, 110, 103, 32, 116, 104, 101, 32, 112, 114, 101, 100, 101, 99, 108, 97, 114, 101, 100, 32, 105, 100, 101, 110, 116, 105, 102, 105, 101, 114, 32, 37, 115, 32, 105, 115, 32, 110, 111, 116, 32, 115, 117, 112, 112, 111, 114, 116, 101, 100]⟩ 1 = some [(0, 115, false)] := by kernel_rfl
theorem Ybaf.act9_115 (name : String) (x : Value) (w : World) : (FmtCalls.act name false 115 false (.iface 9 x)).run Ybaf.prog w = .ok (.closed false) w := by kernel_rfl
def Ybaf.shape9 : List UInt8 := [12, 6, 0, 0, 0, 0, 0, 0, 0, 115, 116, 114, 105, 110, 103]
theorem Ybaf.op9_115 (name : String) (x : ByteArray) (w : World) : (FmtStop.operand name false 115 false (.iface 9 (.string x))).run Ybaf.prog w = .ok (Ybaf.shape9, FmtStop.pack x.data.toList) w := by kernel_rfl

/-- fmt.Sprintf OVER ONE '%s' AND A STRING: it gives SOME string, by one draw. -/
theorem begun_some (f s : ByteArray) (vb : Nat) (w : World) (hc : w.cell? ⟨vb, 0, none⟩ = some (.iface 9 (.string s))) :
    ∃ t : ByteArray, (FmtCalls.begun #[] #[] (FmtCalls.save 0 0 (.slice (some ⟨vb, 0, none⟩) 1 1) f [] [(0, 115, false)])).run Ybaf.prog w = .ok (.value (.string t)) w.drew := by
  have h1 := Ybaf.act9_115
  have h2 := Ybaf.op9_115
  apply Exists.intro
  go_simp
  rfl

/-- .. AT THE OPERATION. -/
theorem wp_sprintf {o : Oper} {a : Act} {w : World} {K : Act → World → Prop} {Q : Exit → Act → World → Prop} (x y : Operand) (hop : o.op = Op.call { callee := .value (.func 12), args := #[x, y], argTypes := #[9, 89] })
    (f s : ByteArray) (vb : Nat) (hx : a.eval x = .string f) (hy : a.eval y = .slice (some ⟨vb, 0, none⟩) 1 1) (hp : FmtStop.printed? f 1 = some [(0, 115, false)]) (hc : w.cell? ⟨vb, 0, none⟩ = some (.iface 9 (.string s)))
    (hK : ∀ t : ByteArray, K (a.put o.dst (.string t)) w.drew) : Oper.wp Ybaf.prog o a w K Q := by
  obtain ⟨t, hrun⟩ := begun_some f s vb w hc
  have hg := Ybaf.guard
  have h12 := Ybaf.call12
  unfold Oper.wp
  have e : (execOp a.eval o).run Ybaf.prog w = .ok (.row FmtCalls.turnsRow (FmtCalls.save 0 0 (.slice (some ⟨vb, 0, none⟩) 1 1) f [] [(0, 115, false)])) w := by
    have e1 : (execOp a.eval o).run Ybaf.prog w = (callFunc 12 #[.string f, .slice (some ⟨vb, 0, none⟩) 1 1]).run Ybaf.prog w := by
      have e2 : a.eval (.func 12) = .func (.func 12) #[] #[] := rfl
      simp [execOp, hop, resolve, invoke, hx, hy, e2, Deferred.ofValue]
    rw [e1, h12]
    go_simp
  rw [e, Oper.upon_row]
  exact rows_value Ybaf.nextTurns hrun (hK t)

/-- .. the operation behind a letter. -/
theorem wp_sprintf_at {o : Oper} {d : Option Tmp} {a : Act} {w : World} {K : Act → World → Prop} {Q : Exit → Act → World → Prop} (x y : Operand) (hd : o.dst = d) (hop : o.op = Op.call { callee := .value (.func 12), args := #[x, y], argTypes := #[9, 89] })
    (f s : ByteArray) (vb : Nat) (hx : a.eval x = .string f) (hy : a.eval y = .slice (some ⟨vb, 0, none⟩) 1 1) (hp : FmtStop.printed? f 1 = some [(0, 115, false)]) (hc : w.cell? ⟨vb, 0, none⟩ = some (.iface 9 (.string s)))
    (hK : ∀ t : ByteArray, K (a.put d (.string t)) w.drew) : Oper.wp Ybaf.prog o a w K Q := by
  subst hd
  exact wp_sprintf x y hop f s vb hx hy hp hc hK

theorem step_sprintf {ops : Array Oper} {o : Oper} {a : Act} {w : World} {K : Act → World → Prop} {Q : Exit → Act → World → Prop} {E : Prop} (hgd : o.guard = none) (x y : Operand) (hop : o.op = Op.call { callee := .value (.func 12), args := #[x, y], argTypes := #[9, 89] })
    (f s : ByteArray) (vb : Nat) (hx : a.eval x = .string f) (hy : a.eval y = .slice (some ⟨vb, 0, none⟩) 1 1) (hp : FmtStop.printed? f 1 = some [(0, 115, false)]) (hc : w.cell? ⟨vb, 0, none⟩ = some (.iface 9 (.string s)))
    (hK : ∀ t : ByteArray, K (a.put o.dst (.string t)) w.drew) : if Region.wanted o (yielded ops a.tmps) = true then Oper.wp Ybaf.prog o a w K Q else E := by
  have hw : Region.wanted o (yielded ops a.tmps) = true := by simp [Region.wanted, hgd]
  rw [if_pos hw]
  exact wp_sprintf x y hop f s vb hx hy hp hc hK
end Go.Proofs.YbulkaobwFmt
