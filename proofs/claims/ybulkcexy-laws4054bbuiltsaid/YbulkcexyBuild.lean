/-
  A slice literal of four, of six bytes: laws of one step each.
-/
import Derived.Test.YbulkcexyBState
namespace Go.Proofs.Ybulkcexy.Frame
open Go.RowKit
set_option linter.unusedVariables false

theorem run_build6 (w : World) (x0 x1 x2 x3 x4 x5 : Int) : (Instr.buildSlice 22 6 #[(0, .int .u8 x0), (1, .int .u8 x1), (2, .int .u8 x2), (3, .int .u8 x3), (4, .int .u8 x4), (5, .int .u8 x5)]).run Yba.prog w =
    .ok (.slice (some ⟨w.heap.size, 0, none⟩) 6 6) (w.alloc (.cells #[.int .u8 x0, .int .u8 x1, .int .u8 x2, .int .u8 x3, .int .u8 x4, .int .u8 x5] 5)) := by kernel_rfl
theorem run_build4 (w : World) (x0 x1 x2 x3 : Int) : (Instr.buildSlice 22 4 #[(0, .int .u8 x0), (1, .int .u8 x1), (2, .int .u8 x2), (3, .int .u8 x3)]).run Yba.prog w =
    .ok (.slice (some ⟨w.heap.size, 0, none⟩) 4 4) (w.alloc (.cells #[.int .u8 x0, .int .u8 x1, .int .u8 x2, .int .u8 x3] 5)) := by kernel_rfl
theorem build4 {w : World} {ops : Array Oper} {rest : List Oper} {o : Oper} {a : Act} {Q : Exit → Act → World → Prop} (hgd : o.guard = none) (x0 x1 x2 x3 : Int)
    (ho : o.op = .buildSlice 22 4 #[(0, .const (.int .u8 x0)), (1, .const (.int .u8 x1)), (2, .const (.int .u8 x2)), (3, .const (.int .u8 x3))])
    (h : wpList Yba.prog ops Q rest (a.put o.dst (.slice (some ⟨w.heap.size, 0, none⟩) 4 4)) (w.alloc (.cells #[.int .u8 x0, .int .u8 x1, .int .u8 x2, .int .u8 x3] 5))) : wpList Yba.prog ops Q (o :: rest) a w := by
  refine wpList_plain hgd fun K hK => ?_
  have hr := run_build4 w x0 x1 x2 x3
  have h0 : a.eval (.const (.int .u8 x0)) = .int .u8 x0 := rfl
  have h1 : a.eval (.const (.int .u8 x1)) = .int .u8 x1 := rfl
  have h2 : a.eval (.const (.int .u8 x2)) = .int .u8 x2 := rfl
  have h3 : a.eval (.const (.int .u8 x3)) = .int .u8 x3 := rfl
  unfold Oper.wp execOp
  simp only [ho, List.map_toArray, List.map_cons, List.map_nil, h0, h1, h2, h3, Sem.run_bind, Sem.run_pure, hr, Result.andThen_ok]
  exact hK _ _ h
theorem build6 {w : World} {ops : Array Oper} {rest : List Oper} {o : Oper} {a : Act} {Q : Exit → Act → World → Prop} (hgd : o.guard = none) (x0 x1 x2 x3 x4 x5 : Int)
    (ho : o.op = .buildSlice 22 6 #[(0, .const (.int .u8 x0)), (1, .const (.int .u8 x1)), (2, .const (.int .u8 x2)), (3, .const (.int .u8 x3)), (4, .const (.int .u8 x4)), (5, .const (.int .u8 x5))])
    (h : wpList Yba.prog ops Q rest (a.put o.dst (.slice (some ⟨w.heap.size, 0, none⟩) 6 6)) (w.alloc (.cells #[.int .u8 x0, .int .u8 x1, .int .u8 x2, .int .u8 x3, .int .u8 x4, .int .u8 x5] 5))) : wpList Yba.prog ops Q (o :: rest) a w := by
  refine wpList_plain hgd fun K hK => ?_
  have hr := run_build6 w x0 x1 x2 x3 x4 x5
  have h0 : a.eval (.const (.int .u8 x0)) = .int .u8 x0 := rfl
  have h1 : a.eval (.const (.int .u8 x1)) = .int .u8 x1 := rfl
  have h2 : a.eval (.const (.int .u8 x2)) = .int .u8 x2 := rfl
  have h3 : a.eval (.const (.int .u8 x3)) = .int .u8 x3 := rfl
  have h4 : a.eval (.const (.int .u8 x4)) = .int .u8 x4 := rfl
  have h5 : a.eval (.const (.int .u8 x5)) = .int .u8 x5 := rfl
  unfold Oper.wp execOp
  simp only [ho, List.map_toArray, List.map_cons, List.map_nil, h0, h1, h2, h3, h4, h5, Sem.run_bind, Sem.run_pure, hr, Result.andThen_ok]
  exact hK _ _ h
end Go.Proofs.Ybulkcexy.Frame
