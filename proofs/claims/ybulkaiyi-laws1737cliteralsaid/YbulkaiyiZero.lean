/-
  The zero value of dht.Node (type 89): 205 cells; what those that the law reads hold.
-/
import Derived.Test.YbulkaiyiProg
import Derived.WalkKit
import Derived.KernelRfl
namespace Go.Proofs.Ybulkaiyi

theorem zero89 : ∃ Z : Array Value, (∀ w, (zeroValue 89).run Yba.prog w = .ok (.agg Z) w) ∧ Z.size = 205 ∧ Z[29]? = some (.int .i32 0) := by
  refine ⟨match ((Yba.prog.info? 89).bind (·.zero)) with | some (.agg c) => c | _ => #[], ?_, ?_, ?_⟩
  · intro w; kernel_rfl
  · kernel_rfl
  · kernel_rfl

end Go.Proofs.Ybulkaiyi
