/-
  math/bits.TrailingZeros64 (17).
-/
import Derived.Test.YbulkaixuDoorMeets
namespace Go.Proofs.YbulkaixuDoor.Walk
open Go.RowKit
set_option linter.unusedVariables false
set_option linter.unusedSimpArgs false
set_option maxRecDepth 100000

/-- The table deBruijn64tab (block 0): 64 bytes. -/
def Tab (w : World) : Prop := ∀ j, j < 64 → ∃ v : Nat, v ≤ 255 ∧ w.cell? ⟨0, j, none⟩ = some (.int .u8 (v : Nat))

theorem Tab.keep {w w' : World} (h : Tab w) (hb : Below w.heap.size w w') : Tab w' := by
  intro j hj
  obtain ⟨v, h1, h2⟩ := h j hj
  exact ⟨v, h1, (hb.cell (p := ⟨0, j, none⟩) (cell_lt h2)).trans h2⟩

theorem wrapU (z : Int) : 0 ≤ IntKind.u64.wrap z ∧ IntKind.u64.wrap z < 18446744073709551616 := by
  simp only [IntKind.wrap, IntKind.bits, IntKind.signed, Bool.false_and]
  simp
  omega

theorem tz_any (x : Int) (w : World) (hx : x ≠ 0) (hT : Tab w) :
    Calls Ybad.prog 17 #[.int .u64 x] w fun e w' => ∃ r : Nat, r ≤ 255 ∧ e = .returned (.int .i64 (r : Nat)) ∧ w' = w := by
  have hxb : (x == 0) = false := by simpa using hx
  have hr := wrapU (bits .and .u64 x (IntKind.u64.wrap (-x)) * 285870213051353865)
  obtain ⟨k, hk⟩ : ∃ k : Nat, IntKind.u64.wrap (bits .and .u64 x (IntKind.u64.wrap (-x)) * 285870213051353865) / 288230376151711744 = (k : Int) := ⟨(IntKind.u64.wrap (bits .and .u64 x (IntKind.u64.wrap (-x)) * 285870213051353865) / 288230376151711744).toNat, by omega⟩
  have hk64 : k < 64 := by omega
  have hk64' : (k : Int) < 64 := by omega
  obtain ⟨v, hv, hc⟩ := hT k hk64
  have hv' : (v : Int) ≤ 255 := by omega
  clear hT hr
  go_enter Ybad.func17, Ybad.ntmps17
  go_wp2
  go_ret
  exact ⟨v, hv, rfl, rfl⟩

end Go.Proofs.YbulkaixuDoor.Walk
