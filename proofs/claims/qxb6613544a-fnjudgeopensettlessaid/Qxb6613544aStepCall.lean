import Derived.Test.Qxb6613544aLink
import Derived.Shelf.Abstract
namespace Go.Proofs.Qxb6613544a
open Go.RowKit

/-- A CALL OF A Go FUNCTION, as one step of a region that draws. -/
theorem step_call {P : Program} {ops : Array Oper} {o : Oper} {a : Act} {w : World} {K : Act → World → Prop} {Q : Exit → Act → World → Prop} {E : Prop}
    (hg : o.guard = none) (f : FuncId) (args : Array Operand) (ts : Array TypeId) (hop : o.op = Op.call { callee := Callee.value (Operand.func f), args := args, argTypes := ts })
    (vs : Array Value) (hvs : args.map a.eval = vs) (hen : ∀ (ys : Array Value) (w : World), (callFunc f ys).run P w = .ok (.enter f ys) w) (R : Ending → World → Prop) (hc : Calls P f vs w R)
    (hK : ∀ e w', R e w' → ∃ v, e = .returned v ∧ K (a.put o.dst v) w') :
    if Region.wanted o (yielded ops a.tmps) = true then Oper.wp P o a w K Q else E := by
  have hw : Region.wanted o (yielded ops a.tmps) = true := by simp [Region.wanted, hg]
  rw [if_pos hw]
  have hr : (execOp a.eval o).run P w = .ok (.enter f vs) w := by
    simp [execOp, hop, resolve, invoke, hvs, hen, Act.eval, go_sem]
  unfold Oper.wp
  rw [hr, Oper.upon_enter]
  refine hc.mono fun e w' he => ?_
  obtain ⟨v, rfl, hk⟩ := hK e w' he
  exact hk

/-- The same, of three arguments. -/
theorem step_call3 {P : Program} {ops : Array Oper} {o : Oper} {a : Act} {w : World} {K : Act → World → Prop} {Q : Exit → Act → World → Prop} {E : Prop}
    (hg : o.guard = none) (f : FuncId) (x y z : Operand) (ts : Array TypeId) (hop : o.op = Op.call { callee := Callee.value (Operand.func f), args := #[x, y, z], argTypes := ts })
    (vx vy vz : Value) (hx : a.eval x = vx) (hy : a.eval y = vy) (hz : a.eval z = vz) (hen : ∀ (ys : Array Value) (w : World), (callFunc f ys).run P w = .ok (.enter f ys) w) (R : Ending → World → Prop) (hc : Calls P f #[vx, vy, vz] w R)
    (hK : ∀ e w', R e w' → ∃ v, e = .returned v ∧ K (a.put o.dst v) w') :
    if Region.wanted o (yielded ops a.tmps) = true then Oper.wp P o a w K Q else E :=
  step_call hg f #[x, y, z] ts hop #[vx, vy, vz] (by simp [hx, hy, hz]) hen R hc hK

theorem enters41 : ∀ (ys : Array Value) (w : World), (callFunc 41 ys).run Try.prog w = .ok (.enter 41 ys) w := Go.Proofs.enters_of Try.func41 (by kernel_rfl) rfl

end Go.Proofs.Qxb6613544a
