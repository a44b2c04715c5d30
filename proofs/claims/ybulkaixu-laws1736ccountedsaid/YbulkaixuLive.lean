/-
  (*orderedWait).live (7).
-/
import Derived.Test.YbulkaixuBase
namespace Go.Proofs.Ybulkaixu.Cnt
open Go.RowKit
set_option linter.unusedVariables false
set_option linter.unusedSimpArgs false
set_option maxRecDepth 100000

/-- The state at block b waits with the request of number sq, if lv; else it waits with none. -/
def Sta (w : World) (b : Nat) (sq : Int) (lv : Bool) : Prop :=
  (lv = false ∧ w.cell? ⟨b, 9, none⟩ = some (.pointer none)) ∨
  (lv = true ∧ ∃ q, w.cell? ⟨b, 9, none⟩ = some (.pointer (some ⟨q, 0, none⟩)) ∧ w.cell? ⟨q, 1, none⟩ = some (.int .u64 sq))

theorem live_any (g o b : Nat) (sq : Int) (lv : Bool) (w : World) (h3 : w.cell? ⟨g, o + 3, none⟩ = some (.int .u64 sq)) (h4 : w.cell? ⟨g, o + 4, none⟩ = some (.pointer (some ⟨b, 0, none⟩))) (hs : Sta w b sq lv) :
    Calls Yba.prog 7 #[.pointer (some ⟨g, o, none⟩)] w fun e w' => e = .returned (.bool lv) ∧ ∃ n, w' = w.drewN n := by
  rcases hs with ⟨rfl, h9⟩ | ⟨rfl, q, h9, h1⟩
  · go_enter Yba.func7, Yba.ntmps7
    go_wp2_with fail
    go_quiet (fail)
    go_wp2
    go_ret
    exact ⟨rfl, _, rfl⟩
  · go_enter Yba.func7, Yba.ntmps7
    go_wp2_with fail
    go_quiet (fail)
    go_wp2
    go_ret
    exact ⟨rfl, _, rfl⟩

end Go.Proofs.Ybulkaixu.Cnt
