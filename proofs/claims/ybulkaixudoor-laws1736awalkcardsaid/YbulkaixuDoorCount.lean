/-
  heapValues.get (24) and lockIndex.holderCount (15) at an index that counts nothing.
-/
import Derived.Test.YbulkaixuDoorTz
namespace Go.Proofs.YbulkaixuDoor.Walk
open Go.RowKit
set_option linter.unusedVariables false
set_option linter.unusedSimpArgs false
set_option maxRecDepth 100000

theorem get_zero (X o : Nat) (h : Nat) (w : World) (hh : h ≤ 65535) (hw : w.cell? ⟨X, o + 1, none⟩ = some (.int .i64 0)) :
    Calls Ybad.prog 24 #[.pointer (some ⟨X, o, none⟩), .int .u16 (h : Nat)] w fun e w' => e = .returned (.int .i64 0) ∧ w' = w := by
  have h1 : (0 : Int) ≤ (h : Int) / 64 := by omega
  go_enter Ybad.func24, Ybad.ntmps24
  go_wp2
  go_ret
  exact ⟨rfl, rfl⟩

/-- The index at block X counts nothing. -/
def Empty (w : World) (X : Nat) : Prop := w.cell? ⟨X, 1, none⟩ = some (.int .i64 0) ∧ ∀ k, k < 8 → w.cell? ⟨X, 2 + k * 2 + 1, none⟩ = some (.int .i64 0)

theorem Empty.keep {bs : List Nat} {w w' : World} {X : Nat} (h : Empty w X) (hf : Fr bs w w') (hb : X ∉ bs) : Empty w' X :=
  ⟨hf.cell hb h.1, fun k hk => hf.cell hb (h.2 k hk)⟩

theorem count_zero (X h : Nat) (w : World) (hh : h ≤ 65535) (hE : Empty w X) :
    Calls Ybad.prog 15 #[.pointer (some ⟨X, 0, none⟩), .int .u16 (h : Nat)] w fun e w' => e = .returned (.int .i64 0) ∧ w' = w := by
  have HE := (show Hid (Empty w X) from hE)
  clear hE
  go_enter Ybad.func15, Ybad.ntmps15
  go_wp2_with fail
  go_loopg [5, 6, 7] 8 (fun k n j i wx => ∃ t : Nat, i = .int .i64 (t : Nat) ∧ k + t = 8 ∧ n = .int .i64 0 ∧ w = wx)
  case atStart =>
    exact ⟨0, rfl, by omega, rfl, rfl⟩
  case round =>
    obtain ⟨t, rfl, hk, rfl, rfl⟩ := hrel
    by_cases ht : t < 8
    · have ht' : (t : Int) < 8 := by omega
      have hg := get_zero X (2 + t * 2) h w hh (HE.out.2 t ht)
      go_wp2_with fail
      refine hg.mono ?_
      rintro e w' ⟨rfl, hw'⟩
      subst hw'
      clear hg
      go_wp2
      go_roundg (gk - 1)
      case measure => omega
      case rel =>
        exact ⟨t + 1, by simp, by omega, rfl, rfl⟩
    · have ht' : ¬ (t : Int) < 8 := by omega
      clear hk
      go_wp2
      go_ret
      exact ⟨rfl, rfl⟩

end Go.Proofs.YbulkaixuDoor.Walk
