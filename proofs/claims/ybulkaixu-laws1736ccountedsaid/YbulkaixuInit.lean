/-
  heap.Init (12) at an empty earlyWaits.
-/
import Derived.Test.YbulkaixuOrd
namespace Go.Proofs.Ybulkaixu.Cnt
open Go.RowKit
set_option linter.unusedVariables false
set_option linter.unusedSimpArgs false
set_option maxRecDepth 100000

theorem len_nil (w : World) : Calls Yba.prog 30 #[.slice none 0 0] w fun e w' => e = .returned (.int .i64 0) ∧ w' = w := by
  go_enter Yba.func30, Yba.ntmps30
  go_wp2
  go_ret
  exact ⟨rfl, rfl⟩

theorem row_len : ∃ i m, Yba.prog.info? 82 = some i ∧ i.methods.find? (fun m => m.name == "Len") = some m ∧ m.path = #[] ∧ m.func = some (30, false) := by
  have h : (Yba.prog.info? 82).map (fun i => (i.methods.find? (fun m => m.name == "Len")).map (fun m => (m.path, m.func))) = some (some (#[], some (30, false))) := by kernel_rfl
  obtain ⟨i, hi, h2⟩ := Option.map_eq_some_iff.1 h
  obtain ⟨m, hm, h3⟩ := Option.map_eq_some_iff.1 h2
  simp only [Prod.mk.injEq] at h3
  exact ⟨i, m, hi, hm, h3.1, h3.2⟩

theorem method_len (A : Nat) (w : World) (h2 : w.cell? ⟨A, 2, none⟩ = some (.slice none 0 0)) : (method 340 82 (.pointer (some ⟨A, 2, none⟩)) "Len").run Yba.prog w = .ok (30, .slice none 0 0) w := by
  obtain ⟨i, m, hi, hm, hp, hf⟩ := row_len
  have hw : ∀ (nm : String), (Builtin.ssaWrapNilChk_ #[82] 82 #[.pointer (some ⟨A, 2, none⟩), strVal "", strVal nm]).run Yba.prog w = .ok (.pointer (some ⟨A, 2, none⟩)) w := fun nm => rfl
  unfold method
  simp [typeInfo, hi, hm, hp, hf, follow, receiverAt, run_underlying Yba.underlying82, Place.get, hw, go_sem, h2]

theorem init_nil (A : Nat) (w : World) (h2 : w.cell? ⟨A, 2, none⟩ = some (.slice none 0 0)) : Calls Yba.prog 12 #[.iface 82 (.pointer (some ⟨A, 2, none⟩))] w fun e w' => e = .returned (.tuple #[]) ∧ w' = w := by
  have hm := method_len A w h2
  go_enter Yba.func12, Yba.ntmps12
  go_wp2_with fail
  refine (len_nil w).mono ?_
  rintro e w' ⟨rfl, rfl⟩
  go_wp2_with fail
  refine wp_loop_rounds 1 ?_
  rw [rounds_succ]
  go_wp2
  go_end0
  exact ⟨rfl, rfl⟩

end Go.Proofs.Ybulkaixu.Cnt
