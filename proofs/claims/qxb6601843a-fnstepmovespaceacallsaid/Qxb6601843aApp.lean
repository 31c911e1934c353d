/-
  append at the level of the whole operation: the walk leaves its run closed ('appRun'), and a hypothesis on 'appRun' runs it, in a drawn region too.
-/
import Derived.WalkKit
import Derived.BigRegion
import Derived.Deep.AppendLies
namespace Go.Proofs.Qxb6601843a
open Go.RowKit
def appRun (P : Program) (t ty : TypeId) (s x : Value) (w : World) : Result Value := (Builtin.append_ #[t, t] ty #[s, x]).run P w
theorem wp_app {P : Program} {dst : Option Tmp} {s x : Operand} {t ty : TypeId} {pos : String} {after : Array Edge} {guard : Option (Nat × Bool)} {A : Act} {w : World} {K : Act → World → Prop} {Q : Exit → Act → World → Prop} :
    Oper.wp P ⟨dst, Op.call ⟨.builtin .append, #[s, x], #[t, t]⟩, ty, pos, after, guard⟩ A w K Q =
      Oper.upon P ⟨dst, Op.call ⟨.builtin .append, #[s, x], #[t, t]⟩, ty, pos, after, guard⟩ A K Q ((appRun P t ty (A.eval s) (A.eval x) w).andThen fun v w' => .ok (.value v) w') := by
  unfold Oper.wp execOp appRun
  simp only [resolve, invoke, builtin, Sem.run_bind, Sem.run_pure, Result.andThen_ok, List.map_toArray, List.map_cons, List.map_nil]
end Go.Proofs.Qxb6601843a
