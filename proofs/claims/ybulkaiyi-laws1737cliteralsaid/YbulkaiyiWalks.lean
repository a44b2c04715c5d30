/-
  THE WALKS of dht.LawS1737CLiteral: TryLock on a free lock; Node.Config; the law.
-/
import Derived.Test.YbulkaiyiLocks
import Derived.Conc.MuLone
import Derived.WalkKit
import Derived.WalkSpells
import Derived.WalkLawsBesides
import Derived.Deep.RegionHeld3
import Derived.Deep.DrawnRows
import Derived.Deep.QuietTactic
import Derived.BigQuiet
import Derived.Below
namespace Go.Proofs.Ybulkaiyi
open Go.RowKit Go.MuLone
set_option linter.unusedSimpArgs false
set_option linter.unusedVariables false
attribute [local go_sem ↓] Go.wp_at_zero Go.wp_at_succ

set_option maxRecDepth 100000 in
/-- '(*internal/sync.Mutex).TryLock', free and nobody waiting (state 0): state 1; true. -/
theorem itry_free (a : Addr) (w : World) (hc : w.cell? a = some (.int .i32 0)) (hz : w.frozen? a = false) :
    Calls Yba.prog 8 #[.pointer (some a)] w fun e w' => e = .returned (.bool true) ∧ w' = w.setCell a (.int .i32 1) := by
  have hd : ∀ w, (callFunc 11 #[]).run Yba.prog w = .ok (.value (.tuple #[])) w := disable Yba.muLib
  have he : ∀ w, (callFunc 12 #[]).run Yba.prog w = .ok (.value (.tuple #[])) w := enable Yba.muLib
  have ha : ∀ a w, (callFunc 14 #[.pointer (some a)]).run Yba.prog w = .ok (.value (.tuple #[])) w := acquire Yba.muLib
  have hcas := run_call_cas_hit (P := Yba.prog) Yba.func13 (by kernel_rfl) (by kernel_rfl) (by kernel_rfl) .i32 (by kernel_rfl) (y := 1) hc hz
  have hc' : (w.setCell a (.int .i32 1)).cell? a = some (.int .i32 1) := by simp [go_sem, hc]
  have hcv := run_convert_to_unsafe (P := Yba.prog) (src := 96) (dst := 100) Yba.underlying96 Yba.underlying100 (by kernel_rfl) hc'
  go_enter Yba.func8, Yba.ntmps8
  go_wp2
  go_ret
  exact ⟨rfl, rfl⟩

/-- '(*sync.Mutex).TryLock', free and nobody waiting: true. -/
theorem try_free (a : Addr) (w : World) (hc : w.cell? a = some (.int .i32 0)) (hz : w.frozen? a = false) :
    Calls Yba.prog 5 #[.pointer (some a)] w fun e w' => e = .returned (.bool true) ∧ w' = w.setCell a (.int .i32 1) := by
  go_enter Yba.func5, Yba.ntmps5
  go_wp2_with fail
  refine (itry_free a _ hc hz).mono ?_
  rintro e w' ⟨rfl, rfl⟩
  go_wp2
  go_ret
  exact ⟨rfl, rfl⟩


set_option maxRecDepth 100000 in
/-- Node.Config at a node whose lock is free. -/
theorem config_any (b : Nat) (rft rep lim exp : Int) (w : World) (hb : b < w.heap.size)
    (c29 : w.cell? ⟨b, 29, none⟩ = some (.int .i32 0)) (z29 : w.frozen? ⟨b, 29, none⟩ = false)
    (c178 : w.cell? ⟨b, 178, none⟩ = some (.int .i64 rft)) (c179 : w.cell? ⟨b, 179, none⟩ = some (.int .i64 lim)) (c181 : w.cell? ⟨b, 181, none⟩ = some (.int .i64 exp)) (c196 : w.cell? ⟨b, 196, none⟩ = some (.int .i64 rep)) :
    Calls Yba.prog 4 #[.pointer (some ⟨b, 0, none⟩)] w fun e w' => e = .returned (.agg #[.int .i64 rft, .int .i64 rep, .int .i64 lim, .int .i64 exp]) ∧
      ∃ o : Obj, w' = ((w.setCell ⟨b, 29, none⟩ (.int .i32 1)).alloc o).drew.setCell ⟨b, 29, none⟩ (.int .i32 0) := by
  have nb : ¬ w.heap.size = b := by omega
  have nb' : ¬ b = w.heap.size := by omega
  go_enter_defers Yba.func4, Yba.ntmps4
  go_wp2_with fail
  refine (lock_free Yba.muLib ⟨b, 29, none⟩ _ ?_ ?_).mono ?_
  · simp [World.cell?_alloc_past, hb, c29]
  · simp [World.frozen?_alloc_past, hb, z29]
  rintro e w' ⟨rfl, rfl⟩
  go_wp2_with fail
  go_region_held3 (fun w' => w'.cell? ⟨b, 178, none⟩ = some (.int .i64 rft) ∧ w'.cell? ⟨b, 179, none⟩ = some (.int .i64 lim) ∧ w'.cell? ⟨b, 181, none⟩ = some (.int .i64 exp) ∧ w'.cell? ⟨b, 196, none⟩ = some (.int .i64 rep)) (simp [go_sem, World.cell?_alloc_past, *])
    (fail)
  go_wp2
  refine leaves_cons (f := 6) (args := #[.pointer (some ⟨b, 29, none⟩)]) (by simp) (by simp [go_sem]) ?_
  refine (unlock_deferred Yba.muLib ⟨b, 29, none⟩ .returning _ ?_ ?_).mono ?_
  · simp [go_sem, World.cell?_alloc_past, hb, c29]
  · simp [go_sem, World.frozen?_alloc_past, hb, z29]
  rintro e u' w'' ⟨rfl, rfl, rfl⟩
  exact ⟨.agg #[.int .i64 rft, .int .i64 rep, .int .i64 lim, .int .i64 exp], by simp [results, Yba.results4, go_sem, nb'], rfl, _, rfl⟩

end Go.Proofs.Ybulkaiyi
