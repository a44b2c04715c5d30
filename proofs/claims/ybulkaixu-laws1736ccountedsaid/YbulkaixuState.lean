/-
  The cells of a trxState.
-/
import Derived.Test.YbulkaixuBase
namespace Go.Proofs.Ybulkaixu.Cnt
open Go.RowKit
set_option linter.unusedVariables false
set_option linter.unusedSimpArgs false
set_option maxRecDepth 100000

/-- The cells of a new trxState. -/
theorem state0 : ∃ Z : Array Value, (∀ w, (zeroValue 57).run Yba.prog w = .ok (.agg Z) w) ∧ (∀ w, (Instr.build 57 #[(11, .bool true)]).run Yba.prog w = .ok (.agg (Z.setIfInBounds 12 (.bool true))) w) ∧
    Z[9]? = some (.pointer none) ∧ Z.size = 144 := by
  refine ⟨(match Yba.prog.info? 57 with
    | some i => (match i.zero with | some z => z.cells | none => #[])
    | none => #[]), fun w => ?_, fun w => ?_, ?_, ?_⟩
  all_goals kernel_rfl

theorem wpList_build {w : World} {ops : Array Oper} {rest : List Oper} {o : Oper} {a : Act} {Q : Exit → Act → World → Prop} (hg : o.guard = none) (t : TypeId) (parts : Array (Nat × Operand)) (v : Value) (hop : o.op = Op.build t parts)
    (hrun : (Instr.build t (parts.map fun (i, x) => (i, a.eval x))).run Yba.prog w = .ok v w) (hK : wpList Yba.prog ops Q rest (a.put o.dst v) w) : wpList Yba.prog ops Q (o :: rest) a w := by
  refine wpList_plain hg fun K hK' => ?_
  unfold Oper.wp
  simp [execOp, hop, hrun, Result.andThen]
  exact hK' _ _ hK

end Go.Proofs.Ybulkaixu.Cnt
