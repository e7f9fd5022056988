/-
  OPERATIONS WHOSE RUN IS KNOWN, as steps of the walk.
-/
import Derived.Test.Qxb6626223aMaps
import Derived.Maps.OwnOps
namespace Go.Proofs.Qxb6626223a.Ops
open Go.RowKit
open Go.Proofs.Qxb6626223a.Frame
set_option linter.unusedVariables false
set_option linter.unusedSimpArgs false

/-- A store into a map whose run is known. -/
theorem wpList_update_run {P : Program} (w : World) {ops : Array Oper} {rest : List Oper} {o : Oper} {a : Act} {Q : Exit → Act → World → Prop}
    (hg : o.guard = Option.none) (m x v : Operand) (t : TypeId) (hop : o.op = Op.mapUpdate t m x v)
    (vm vx vv : Value) (w' : World) (hm : a.eval m = vm) (hx : a.eval x = vx) (hv : a.eval v = vv) (hrun : (Instr.mapUpdate t vm vx vv).run P w = .ok () w')
    (hK : wpList P ops Q rest (a.put o.dst undef) w') : wpList P ops Q (o :: rest) a w := by
  refine wpList_plain hg fun K' hK' => ?_
  unfold Oper.wp
  simp [execOp, hop, hm, hx, hv, hrun, Result.andThen]
  exact hK' _ _ hK

/-- .. as one step of a region that draws. -/
theorem step_update_run {P : Program} {ops : Array Oper} {o : Oper} {a : Act} {w : World} {K : Act → World → Prop} {Q : Exit → Act → World → Prop} {E : Prop}
    (hg : o.guard = Option.none) (m x v : Operand) (t : TypeId) (hop : o.op = Op.mapUpdate t m x v)
    (vm vx vv : Value) (w' : World) (hm : a.eval m = vm) (hx : a.eval x = vx) (hv : a.eval v = vv) (hrun : (Instr.mapUpdate t vm vx vv).run P w = .ok () w')
    (hK : K (a.put o.dst undef) w') : if Region.wanted o (yielded ops a.tmps) = true then Oper.wp P o a w K Q else E := by
  have hw : Region.wanted o (yielded ops a.tmps) = true := by simp [Region.wanted, hg]
  rw [if_pos hw]
  unfold Oper.wp
  simp [execOp, hop, hm, hx, hv, hrun, Result.andThen]
  exact hK

/-- A look-up whose run is known. -/
theorem wpList_lookup_run {P : Program} (w : World) {ops : Array Oper} {rest : List Oper} {o : Oper} {a : Act} {Q : Exit → Act → World → Prop}
    (hg : o.guard = Option.none) (m x : Operand) (t : TypeId) (c : Bool) (hop : o.op = Op.lookup t m x c)
    (vm vx v : Value) (hm : a.eval m = vm) (hx : a.eval x = vx) (hrun : (Instr.lookup t vm vx c).run P w = .ok v w)
    (hK : wpList P ops Q rest (a.put o.dst v) w) : wpList P ops Q (o :: rest) a w := by
  refine wpList_plain hg fun K' hK' => ?_
  unfold Oper.wp
  simp [execOp, hop, hm, hx, hrun, Result.andThen]
  exact hK' _ _ hK

theorem step_lookup_run {P : Program} {ops : Array Oper} {o : Oper} {a : Act} {w : World} {K : Act → World → Prop} {Q : Exit → Act → World → Prop} {E : Prop}
    (hg : o.guard = Option.none) (m x : Operand) (t : TypeId) (c : Bool) (hop : o.op = Op.lookup t m x c)
    (vm vx v : Value) (hm : a.eval m = vm) (hx : a.eval x = vx) (hrun : (Instr.lookup t vm vx c).run P w = .ok v w)
    (hK : K (a.put o.dst v) w) : if Region.wanted o (yielded ops a.tmps) = true then Oper.wp P o a w K Q else E := by
  have hw : Region.wanted o (yielded ops a.tmps) = true := by simp [Region.wanted, hg]
  rw [if_pos hw]
  unfold Oper.wp
  simp [execOp, hop, hm, hx, hrun, Result.andThen]
  exact hK

end Go.Proofs.Qxb6626223a.Ops
