/-
  '&inflater{in: .., pos: ..}'.
-/
import Derived.Test.YbulkcdqaDoorHead3
import Derived.Laws.Tables
namespace Go.Proofs.YbulkcdqaDoor
open Go.RowKit
set_option maxRecDepth 100000

/-- The inflater's cells. -/
def inflC (v p : Value) : Array Value := #[v, p, .int .u64 0, .int .u64 0, .slice none 0 0, .int .i64 0, .int .i64 0, .slice none 0 0, .slice none 0 0, .slice none 0 0] ++ Array.replicate 316 (.int .u8 0)

theorem build31a (ao : Option Addr) (n c : Nat) (w : World) : (Instr.build 31 #[(0, .slice ao n c)]).run Ybad.prog w = .ok (.agg (inflC (.slice ao n c) (.int .i64 0))) w := run_build w 31 _ _ (by kernel_rfl)
theorem build31b (ao : Option Addr) (n c : Nat) (p : Int) (w : World) : (Instr.build 31 #[(0, .slice ao n c), (1, .int .i64 p)]).run Ybad.prog w = .ok (.agg (inflC (.slice ao n c) (.int .i64 p))) w := run_build w 31 _ _ (by kernel_rfl)
theorem box31 (v p : Value) (w : World) : (Instr.box 31 (.agg (inflC v p))).run Ybad.prog w = .ok (.pointer (some ⟨w.heap.size, 0, none⟩)) (w.alloc (.cells (inflC v p) 31)) := by kernel_rfl

theorem wpList_build31a {ops : Array Oper} {rest : List Oper} {o : Oper} {a : Act} {w : World} {Q : Exit → Act → World → Prop} (hg : o.guard = none) (x : Operand) (ho : o.op = .build 31 #[(0, x)])
    (ao : Option Addr) (n c : Nat) (hx : a.eval x = .slice ao n c) (h : wpList Ybad.prog ops Q rest (a.put o.dst (.agg (inflC (.slice ao n c) (.int .i64 0)))) w) : wpList Ybad.prog ops Q (o :: rest) a w := by
  refine wpList_plain hg fun K hK => ?_
  unfold Oper.wp execOp
  simp only [ho, Sem.run_bind, List.map_toArray, List.map, hx, build31a, Result.andThen_ok]
  exact hK _ _ h
theorem wpList_build31b {ops : Array Oper} {rest : List Oper} {o : Oper} {a : Act} {w : World} {Q : Exit → Act → World → Prop} (hg : o.guard = none) (x y : Operand) (ho : o.op = .build 31 #[(0, x), (1, y)])
    (ao : Option Addr) (n c : Nat) (p : Int) (hx : a.eval x = .slice ao n c) (hy : a.eval y = .int .i64 p) (h : wpList Ybad.prog ops Q rest (a.put o.dst (.agg (inflC (.slice ao n c) (.int .i64 p)))) w) : wpList Ybad.prog ops Q (o :: rest) a w := by
  refine wpList_plain hg fun K hK => ?_
  unfold Oper.wp execOp
  simp only [ho, Sem.run_bind, List.map_toArray, List.map, hx, hy, build31b, Result.andThen_ok]
  exact hK _ _ h
theorem wpList_box31 {ops : Array Oper} {rest : List Oper} {o : Oper} {a : Act} {w : World} {Q : Exit → Act → World → Prop} (hg : o.guard = none) (x : Operand) (ho : o.op = .box 31 x)
    (v p : Value) (hx : a.eval x = .agg (inflC v p)) (h : wpList Ybad.prog ops Q rest (a.put o.dst (.pointer (some ⟨w.heap.size, 0, none⟩))) (w.alloc (.cells (inflC v p) 31))) : wpList Ybad.prog ops Q (o :: rest) a w := by
  refine wpList_plain hg fun K hK => ?_
  unfold Oper.wp execOp
  simp only [ho, Sem.run_bind, hx, box31, Result.andThen_ok]
  exact hK _ _ h
end Go.Proofs.YbulkcdqaDoor
