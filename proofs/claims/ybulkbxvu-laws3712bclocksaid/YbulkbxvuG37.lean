/-
  zzs3712bbuild at the chain: the node's slice literal.
-/
import Derived.Test.YbulkbxvuG36
namespace Go.Proofs.Ybulkbxvu
open Go.RowKit
set_option linter.unusedVariables false

theorem wp_node {o : Oper} {a : Act} {w : World} {K : Act → World → Prop} {Q : Exit → Act → World → Prop} (x : Operand) (ho : o.op = .buildSlice 55 1 #[(0, x)]) (n7 : Int)
    (hx : a.eval x = .agg #[.int .i32 0, .int .i32 0, .int .i32 0, .int .i32 0, .int .i32 0, .int .i32 n7, .bool false, .slice none 0 0, .pointer none])
    (h : K (a.put o.dst (.slice (some ⟨w.heap.size, 0, none⟩) 1 1)) (w.alloc (.cells #[.int .i32 0, .int .i32 0, .int .i32 0, .int .i32 0, .int .i32 0, .int .i32 n7, .bool false, .slice none 0 0, .pointer none] 53)).drew) : Oper.wp Yba.prog o a w.drew K Q := by
  have hr := run_node n7 w
  unfold Oper.wp execOp
  simp only [ho, Sem.run_bind, Sem.run_pure, Result.andThen_ok, List.map_toArray, List.map_cons, List.map_nil, hx, hr]
  exact h
end Go.Proofs.Ybulkbxvu
