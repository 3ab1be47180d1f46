/-
  The zero Scheduler (294 cells) is made without laying its cells open.
-/
import Derived.Test.YbulkmmcVcl
namespace Go.Proofs.Ybulkmmc
open Go.RowKit

theorem sched_ex : ∃ cs : Array Value, (∀ w : World, (Instr.build 62 #[]).run Yba.prog w = .ok (.agg cs) w) ∧ cs[15]? = some (.slice none 0 0) ∧ cs[16]? = some (.slice none 0 0) := by
  refine ⟨((Yba.prog.info? 62).bind (·.zero)).elim #[] Value.cells, fun w => ?_, ?_, ?_⟩
  · kernel_rfl
  · kernel_rfl
  · kernel_rfl

theorem wpList_build62 {cs : Array Value} (hb : ∀ w : World, (Instr.build 62 #[]).run Yba.prog w = .ok (.agg cs) w) {ops : Array Oper} {rest : List Oper} {o : Oper} {a : Act} {w : World} {Q : Exit → Act → World → Prop} (hgd : o.guard = none)
    (ho : o.op = .build 62 #[]) (h : wpList Yba.prog ops Q rest (a.put o.dst (.agg cs)) w) : wpList Yba.prog ops Q (o :: rest) a w :=
  wpList_plain hgd fun _ hK => by
    unfold Oper.wp execOp
    simp only [ho, List.map_toArray, List.map_nil, Sem.run_bind, hb, Result.andThen_ok, Sem.run_pure]
    exact hK _ _ h

theorem wpList_box62 {ops : Array Oper} {rest : List Oper} {o : Oper} {a : Act} {w : World} {Q : Exit → Act → World → Prop} (hgd : o.guard = none) (x : Operand) (cs : Array Value)
    (ho : o.op = .box 62 x) (hx : a.eval x = .agg cs) (h : wpList Yba.prog ops Q rest (a.put o.dst (.pointer (some ⟨w.heap.size, 0, none⟩))) (w.alloc (.cells cs 62))) : wpList Yba.prog ops Q (o :: rest) a w :=
  wpList_plain hgd fun _ hK => by
    unfold Oper.wp execOp
    simp only [ho, hx]
    exact hK _ _ h
end Go.Proofs.Ybulkmmc
