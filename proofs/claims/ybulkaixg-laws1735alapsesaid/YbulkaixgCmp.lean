/-
  THE CONTRACTS OF version.Version.Compare (function 14) AND ALL THAT IT CALLS: cmp.isNaN[uint64], cmp.Compare[uint64], strings.Compare, cmp.Or[int]. Shared by the seat's laws.
-/
import Derived.Test.YbulkaixgProg
import Derived.WalkKit
import Derived.WalkSpells
import Derived.WalkLawsBesides
import Derived.Deep.RegionHeld3
import Derived.Deep.DrawnRows
import Derived.Lib.Bytealg
import Derived.Below
namespace Go.Proofs.Ybulkaixg.Cmp
open Go.RowKit
set_option linter.unusedSimpArgs false
set_option linter.unusedVariables false
attribute [local go_sem ↓] Go.wp_at_zero Go.wp_at_succ

/-- cmp.Compare at uint64. -/
def cmpU (a b : Int) : Int := if a < b then -1 else if b < a then 1 else 0

/-- Version.Compare. -/
def cmpV (c1 : Int) (m1 : List UInt8) (c2 : Int) (m2 : List UInt8) : Int := if c1 < c2 then -1 else if c2 < c1 then 1 else Lib.compareBytes m1 m2

theorem cmp56 (a b : ByteArray) (w : World) : (callFunc 56 #[.string a, .string b]).run Yba.prog w = .ok (.value (.int .i64 (Lib.compareBytes a.data.toList b.data.toList))) w := by
  rw [run_callFunc_extern Yba.func56 (by kernel_rfl) (by kernel_rfl) (by kernel_rfl) (e := Extern.BytealgCompare.compare) (by kernel_rfl), Lib.run_compareString]
  rfl

theorem strCmp (a b : ByteArray) (w : World) :
    Calls Yba.prog 28 #[.string a, .string b] w fun e w' => e = .returned (.int .i64 (Lib.compareBytes a.data.toList b.data.toList)) ∧ w' = w := by
  have h56 := cmp56 a b
  go_enter Yba.func28, Yba.ntmps28
  go_wp2
  go_ret
  exact ⟨rfl, rfl⟩

theorem cmp64 (a b : Int) (w : World) :
    Calls Yba.prog 27 #[.int .u64 a, .int .u64 b] w fun e w' => e = .returned (.int .i64 (cmpU a b)) ∧ w' = w := by
  unfold cmpU
  by_cases h1 : a < b
  · go_enter Yba.func27, Yba.ntmps27
    go_wp2
    go_ret
    exact ⟨by simp [h1], rfl⟩
  · by_cases h2 : b < a
    · go_enter Yba.func27, Yba.ntmps27
      go_wp2
      go_ret
      exact ⟨by simp [h1, h2], rfl⟩
    · go_enter Yba.func27, Yba.ntmps27
      go_wp2
      go_ret
      exact ⟨by simp [h1, h2], rfl⟩


def orV (x y : Int) : Int := if x = 0 then y else x

/-- cmp.Or at two ints. -/
theorem or2 (b : Nat) (x y : Int) (w : World) (h0 : w.cell? ⟨b, 0, none⟩ = some (.int .i64 x)) (h1 : w.cell? ⟨b, 1, none⟩ = some (.int .i64 y)) :
    Calls Yba.prog 26 #[.slice (some ⟨b, 0, none⟩) 2 2] w fun e w' => e = .returned (.int .i64 (orV x y)) ∧ w' = w := by
  unfold orV
  by_cases hx : x = 0
  · subst hx
    by_cases hy : y = 0
    · subst hy
      go_enter Yba.func26, Yba.ntmps26
      go_wp2
      refine wp_loop_rounds 3 ?_
      rw [rounds_succ]
      go_wp2
      rw [rounds_succ]
      go_wp2
      rw [rounds_succ]
      go_wp2
      go_ret
      exact ⟨by simp, rfl⟩
    · go_enter Yba.func26, Yba.ntmps26
      go_wp2
      refine wp_loop_rounds 2 ?_
      rw [rounds_succ]
      go_wp2
      rw [rounds_succ]
      go_wp2
      go_ret
      exact ⟨by simp, rfl⟩
  · go_enter Yba.func26, Yba.ntmps26
    go_wp2
    refine wp_loop_rounds 1 ?_
    rw [rounds_succ]
    go_wp2
    go_ret
    exact ⟨by simp [hx], rfl⟩

theorem compare_any (c1 c2 : Int) (m1 m2 : ByteArray) (w : World) :
    Calls Yba.prog 14 #[.agg #[.int .u64 c1, .string m1], .agg #[.int .u64 c2, .string m2]] w fun e w' =>
      e = .returned (.int .i64 (cmpV c1 m1.data.toList c2 m2.data.toList)) ∧ ∃ o1 o2 o3 : Obj, w' = (((w.alloc o1).alloc o2).alloc o3).drew := by
  go_enter Yba.func14, Yba.ntmps14
  go_wp2
  go_region_held3 (fun w' => w'.cell? ⟨w.heap.size, 0, none⟩ = some (.int .u64 c1) ∧ w'.cell? ⟨w.heap.size, 1, none⟩ = some (.string m1) ∧ w'.cell? ⟨w.heap.size + 1, 0, none⟩ = some (.int .u64 c2) ∧ w'.cell? ⟨w.heap.size + 1, 1, none⟩ = some (.string m2)) (simp [go_sem, World.cell?_alloc_past])
    (first
      | (go_at_call 27; refine (cmp64 c1 c2 _).mono ?_; rintro e w' ⟨rfl, rfl⟩)
      | (go_at_call 28; refine (strCmp m1 m2 _).mono ?_; rintro e w' ⟨rfl, rfl⟩)
      | (go_at_call 26; refine (or2 _ (cmpU c1 c2) (Lib.compareBytes m1.data.toList m2.data.toList) _ ?h0 ?h1).mono ?_; (case h0 => simp [go_sem]); (case h1 => simp [go_sem]); rintro e w' ⟨rfl, rfl⟩))
  go_wp2
  go_ret
  refine ⟨?_, ?_⟩
  · congr 2
    unfold orV cmpU cmpV
    by_cases h1 : c1 < c2
    · simp [h1]
    · by_cases h2 : c2 < c1 <;> simp [h1, h2]
  · exact ⟨_, _, _, rfl⟩

end Go.Proofs.Ybulkaixg.Cmp
