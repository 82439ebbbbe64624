/-
  The options' struct as a whole: made, laid, read, its cells unseen by the walk.
-/
import Derived.Test.Qxb6600831aDoorT3
import Derived.Deep.WholeRow
namespace Go.Proofs.Qxb6600831aDoor
open Go.RowKit

theorem optC_info (git raw : Bool) : (Tryd.prog.info? 25).map (·.size) = some (optC git raw).size := by rw [optC_size]; exact info25
theorem optC_one (git raw : Bool) : (optC git raw).all (·.oneCell') = true := by cases git <;> cases raw <;> kernel_rfl
theorem opt_zero : (Tryd.prog.info? 25).map (fun i => (i.zero, i.size)) = some (some (.agg (optC false false)), 25) := by kernel_rfl
theorem opt_built (git raw : Bool) : Tryd.prog.built 25 [(9, .bool git), (8, .bool raw)] = some (optC git raw) := by kernel_rfl

theorem wpList_opt_build {ops : Array Oper} {rest : List Oper} {o : Oper} {a : Act} {w : World} {Q : Exit → Act → World → Prop} (git raw : Bool) (hg : o.guard = none) (x y : Operand) (ho : o.op = .build 25 #[(9, x), (8, y)])
    (hx : a.eval x = .bool git) (hy : a.eval y = .bool raw)
    (h : wpList Tryd.prog ops Q rest (a.put o.dst (.agg (optC git raw))) w) : wpList Tryd.prog ops Q (o :: rest) a w := by
  have e : ((#[(9, x), (8, y)] : Array (Nat × Operand)).map fun (i, x) => (i, a.eval x)).toList = [(9, .bool git), (8, .bool raw)] := by simp [hx, hy]
  refine wpList_build hg 25 _ ho (by rw [e, opt_built]; rfl) ?_
  rw [e, opt_built]
  exact h

theorem wpList_opt_alloc {ops : Array Oper} {rest : List Oper} {o : Oper} {a : Act} {w : World} {Q : Exit → Act → World → Prop} (hg : o.guard = none) (ho : o.op = .alloc 25)
    (h : wpList Tryd.prog ops Q rest (a.put o.dst (.pointer (some ⟨w.heap.size, 0, none⟩))) (w.alloc (.cells (optC false false) 25))) : wpList Tryd.prog ops Q (o :: rest) a w := by
  refine wpList_plain hg fun K hK => ?_
  have hz := (zero_of_info opt_zero).1 w
  unfold Oper.wp execOp
  simp only [ho, Instr.alloc, Sem.run_bind, hz, Result.andThen_ok]
  exact hK _ _ h

theorem wpList_opt_store {ops : Array Oper} {rest : List Oper} {o : Oper} {a : Act} {w : World} {Q : Exit → Act → World → Prop} (git raw : Bool) (hg : o.guard = none) (x y : Operand) (ho : o.op = .store 25 x y)
    (hx : a.eval x = .pointer (some ⟨w.heap.size, 0, none⟩)) (hy : a.eval y = .agg (optC git raw))
    (h : wpList Tryd.prog ops Q rest (a.put o.dst undef) (w.alloc (.cells (optC git raw) 25))) : wpList Tryd.prog ops Q (o :: rest) a (w.alloc (.cells (optC false false) 25)) := by
  refine wpList_store_row hg 25 x y ho w.heap.size (optC git raw) hx hy 25 (optC false false) (heap_alloc_new _ _) (optC_info git raw) rfl (optC_one git raw) ?_
  rw [World.setRow_alloc_new]
  exact h

theorem wpList_opt_load {ops : Array Oper} {rest : List Oper} {o : Oper} {a : Act} {w : World} {Q : Exit → Act → World → Prop} (git raw : Bool) (hg : o.guard = none) (x : Operand) (ho : o.op = .load 25 x)
    (hx : a.eval x = .pointer (some ⟨w.heap.size, 0, none⟩))
    (h : wpList Tryd.prog ops Q rest (a.put o.dst (.agg (optC git raw))) (w.alloc (.cells (optC git raw) 25))) : wpList Tryd.prog ops Q (o :: rest) a (w.alloc (.cells (optC git raw) 25)) :=
  wpList_load_row hg 25 x ho w.heap.size hx 25 (optC git raw) (0, 0) _ (opt_heap git raw w) Tryd.underlying25 rfl (optC_info git raw) h
end Go.Proofs.Qxb6600831aDoor
