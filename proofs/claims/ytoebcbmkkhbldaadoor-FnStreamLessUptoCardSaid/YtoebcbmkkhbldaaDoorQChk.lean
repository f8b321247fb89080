/- impl.Chunks. -/
import Derived.Test.YtoebcbmkkhbldaaDoorQLkr
import Derived.Test.YtoebcbmkkhbldaaDoorQPie
import Derived.Test.YtoebcbmkkhbldaaDoorQRdy
import Derived.Test.YtoebcbmkkhbldaaDoorQNbs
import Derived.Deep.RegionHeld3
set_option linter.unusedVariables false
namespace Go.Proofs.YtoebcbmkkhbldaaDoor
open Go.RowKit Go.Mem Sais Go.Lib Go.Wire
set_option maxRecDepth 100000

/-- A call of a Go function as one step of a region that draws. -/
theorem step_call_run {P : Program} {ops : Array Oper} {o : Oper} {a : Act} {w : World} {K : Act → World → Prop} {Q : Exit → Act → World → Prop} {E : Prop}
    (hg : o.guard = none) (f : FuncId) (o1 o2 o3 : Operand) (ts : Array TypeId) (hop : o.op = Op.call { callee := Callee.value (.func f), args := #[o1, o2, o3], argTypes := ts })
    (v1 v2 v3 : Value) (h1 : a.eval o1 = v1) (h2 : a.eval o2 = v2) (h3 : a.eval o3 = v3) (hent : ∀ W, (callFunc f #[v1, v2, v3]).run P W = .ok (.enter f #[v1, v2, v3]) W) (R : Ending → World → Prop) (hC : Calls P f #[v1, v2, v3] w R) (hr : ∀ e w', R e w' → ∃ v, e = .returned v) (hK : ∀ v w', R (.returned v) w' → K (a.put o.dst v) w') :
    if Region.wanted o (yielded ops a.tmps) = true then Oper.wp P o a w K Q else E := by
  have hw : Region.wanted o (yielded ops a.tmps) = true := by simp [Region.wanted, hg]
  rw [if_pos hw]
  unfold Oper.wp
  have h0 : (execOp a.eval o).run P w = .ok (.enter f #[v1, v2, v3]) w := by
    have h4 : a.eval (.func f) = .func (.func f) #[] #[] := rfl
    simp [execOp, hop, resolve, invoke, h1, h2, h3, h4, hent, Deferred.ofValue]
  rw [h0, Oper.upon_enter]
  refine hC.mono fun e w' h => ?_
  obtain ⟨v, rfl⟩ := hr e w' h
  exact hK v w' h
theorem ent_lookup (a b c : Value) (W : World) : (callFunc 8 #[a, b, c]).run Tryd.prog W = .ok (.enter 8 #[a, b, c]) W := by kernel_rfl
def ChPost (s t : ByteArray) (w : World) (e : Ending) (w' : World) : Prop := ∃ l v, e = .returned (.tuple #[v, .bool true]) ∧ IL l w' v ∧ l.Perm (ints (places s t)) ∧ Grew w w'
end Go.Proofs.YtoebcbmkkhbldaaDoor
