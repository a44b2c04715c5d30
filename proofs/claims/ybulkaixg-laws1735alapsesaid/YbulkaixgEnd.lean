/-
  (*mark).end (45) at a mark whose channel is open and empty: the default of the select; the channel is closed.
-/
import Derived.Test.YbulkaixgProg
import Derived.WalkKit
import Derived.Conc.LoneSelect
import Derived.KernelRfl
import Derived.Laws.Rows
namespace Go.Proofs.Ybulkaixg.Marks
open Go.Conc Go.RowKit
set_option linter.unusedVariables false
set_option linter.unusedSimpArgs false

set_option maxRecDepth 100000 in
theorem end_open (m c : Nat) (w : World) (h7 : w.cell? ⟨m, 7, none⟩ = some (.chan (some c))) (hc : w.heap[c]? = some (.chan 0 #[] false 0 0 false)) :
    Calls Yba.prog 45 #[.pointer (some ⟨m, 0, none⟩)] w fun e w' => e = .returned (.tuple #[]) ∧ w' = w.setChan c 0 #[] true 0 0 false := by
  refine calls_of_loneTo fun cs => ?_
  have e : Frame.enter Yba.prog 45 #[.pointer (some ⟨m, 0, none⟩)] .normal = (base 45).at ⟨#[.pointer (some ⟨m, 0, none⟩), undef, undef, undef, undef, undef, undef, undef, undef, undef, undef, undef, undef], []⟩ [.code (Yba.f45.body.getD .skip)] := by
    simp [Frame.enter, Frame.at, Yba.func45, base, Yba.f45]
  rw [e]
  refine LoneTo.goes (n := 9) ?_
  simp only [Yba.f45, Option.getD_some]
  s_c stepG_seq
  s_reg
  s_op
  s_op
  s_op
  s_op
  s_c stepG_region_end
  s_c stepG_seq
  s_reg
  s_stop
  refine LoneTo.step (step_lone_select_default (c := c) (z := .agg #[]) (cap := 0) (s := 0) (r := 0) (tm := false) (stepG_comm (cases := #[rcase c (.agg #[])]) (blocking := false) (shape := .select) (w' := w) rfl rfl (by decide) (by simp [go_sem, execOp, rcase, Act.eval])) hc) ?_
  rw [Frame.finish_at]
  walk_nrm
  refine LoneTo.goes (n := 14) ?_
  s_op
  s_op
  s_c stepG_region_end
  s_c stepG_block
  s_cond false
  s_reg
  s_op
  s_op
  s_op
  s_op
  s_in
  refine goes_oper_k rfl rfl (by decide) (fun K hK => ?_)
  have hcl := fun ats ty => run_close_open (P := Yba.prog) (w := w) ats ty hc
  go_simp
  refine hK _ _ ⟨trivial, ?_⟩
  clear hK K hcl
  s_c stepG_region_end
  s_c stepG_inBlock
  s_c stepG_end
  s_stop
  exact LoneTo.done ⟨.returned (.tuple #[]), _, rfl, ⟨rfl, rfl⟩, rfl, rfl, rfl, rfl, _, Yba.func45, by simp [results, Yba.f45, Frame.at]⟩

end Go.Proofs.Ybulkaixg.Marks
