/-
  THE WALKS of prices.LawS1738ARefuses' callees: fmt.Errorf (5), slices.Min at []string (6), (*Day).Unpriced (4).
-/
import Derived.Test.YbulkaiywFmtFacts
import Derived.WalkKit
import Derived.WalkSpells
import Derived.WalkLawsBesides
import Derived.Deep.RegionHeld3
import Derived.Deep.DrawnRows
import Derived.Deep.QuietTactic
import Derived.BigQuiet
import Derived.Lib.MinMaxS
import Derived.Laws.CopyOwn
import Derived.Below
namespace Go.Proofs.YbulkaiywFmt
open Go.RowKit Go.Extern.Stop Go.Stop Go.Extern
set_option linter.unusedSimpArgs false
set_option linter.unusedVariables false
set_option linter.unnecessarySimpa false
attribute [local go_sem ↓] Go.wp_at_zero Go.wp_at_succ

theorem errorf2 (F : Interp) (b : Nat) (s1 s2 : ByteArray) (w : World) (hF : F.answers w.tape)
    (c0 : w.cell? ⟨b, 0, none⟩ = some (.iface 9 (.string s1))) (c1 : w.cell? ⟨b, 1, none⟩ = some (.iface 9 (.string s2))) :
    Calls Ybaf.prog 5 #[.string ⟨#[37, 115, 58, 32, 110, 111, 32, 112, 114, 105, 99, 101, 32, 102, 111, 114, 32, 37, 115]⟩, .slice (some ⟨b, 0, none⟩) 2 2] w fun e w' =>
      e = .returned (.iface 37 (.pointer (some ⟨w.heap.size, 0, none⟩))) ∧ ∃ o : Obj, w' = (w.alloc o).drew := by
  have hF' := answers_open hF
  go_enter Ybaf.func5, Ybaf.ntmps5
  go_wp2
  go_ret
  exact ⟨rfl, _, rfl⟩

theorem errorf4 (F : Interp) (b : Nat) (s1 : ByteArray) (n m : Int) (w : World) (hF : F.answers w.tape)
    (c0 : w.cell? ⟨b, 0, none⟩ = some (.iface 9 (.string s1))) (c1 : w.cell? ⟨b, 1, none⟩ = some (.iface 3 (.int .i64 n))) (c2 : w.cell? ⟨b, 2, none⟩ = some (.iface 3 (.int .i64 m))) (c3 : ∃ s2 : ByteArray, w.cell? ⟨b, 3, none⟩ = some (.iface 9 (.string s2))) :
    Calls Ybaf.prog 5 #[.string ⟨#[37, 115, 58, 32, 110, 111, 32, 112, 114, 105, 99, 101, 32, 102, 111, 114, 32, 37, 100, 32, 111, 102, 32, 37, 100, 32, 104, 101, 108, 100, 32, 115, 101, 99, 117, 114, 105, 116, 105, 101, 115, 44, 32, 116, 104, 101, 32, 102, 105, 114, 115, 116, 32, 37, 115]⟩, .slice (some ⟨b, 0, none⟩) 4 4] w fun e w' =>
      e = .returned (.iface 37 (.pointer (some ⟨w.heap.size, 0, none⟩))) ∧ ∃ o : Obj, w' = (w.alloc o).drew := by
  obtain ⟨s2, c3⟩ := c3
  have hF' := answers_open hF
  go_enter Ybaf.func5, Ybaf.ntmps5
  go_wp2
  go_ret
  exact ⟨rfl, _, rfl⟩

/-- slices.Min at []string, not empty: some string; nothing turns. -/
theorem min_any (b n : Nat) (ss : List ByteArray) (w : World) (hn : 1 ≤ n) (hn' : n ≤ 1024) (hl : ss.length = n)
    (hc : ∀ j, j < n → w.cell? ⟨b, j, none⟩ = some (.string (ss.getD j ByteArray.empty))) :
    Calls Ybaf.prog 6 #[.slice (some ⟨b, 0, none⟩) n n] w fun e w' => (∃ s : ByteArray, e = .returned (.string s)) ∧ w' = w := by
  have hmin := @Lib.run_min_strs Ybaf.prog
  have h0 := hc 0 (by omega)
  go_enter Ybaf.func6, Ybaf.ntmps6
  go_wp2
  go_loop [3, 4] (fun m i => ∃ (k : Nat) (s : ByteArray), k ≤ n ∧ i = .int .i64 k ∧ m = .string s) (fun _ i => n - (intOf i).toNat)
  case atStart => exact ⟨1, _, hn, rfl, rfl⟩
  case round =>
    obtain ⟨k, s, hk, rfl, rfl⟩ := hrel
    by_cases hlt : k < n
    · have hck := hc k hlt
      go_wp2
      go_round
      case rel => exact ⟨k + 1, _, by omega, by go_num, rfl⟩
      case measure => simp [intOf]; omega
    · go_wp2
      go_ret
      exact ⟨⟨_, rfl⟩, rfl⟩

/-- Unpriced: an error that is not nil. -/
theorem unpriced_one (F : Interp) (d b : Nat) (path : ByteArray) (ss : List ByteArray) (m : Int) (w : World) (hF : F.answers w.tape)
    (cd : w.cell? ⟨d, 0, none⟩ = some (.string path)) (hd : d < w.heap.size) (hb : b < w.heap.size)
    (hc : ∀ j, j < 1 → w.cell? ⟨b, j, none⟩ = some (.string (ss.getD j ByteArray.empty))) :
    Calls Ybaf.prog 4 #[.pointer (some ⟨d, 0, none⟩), .slice (some ⟨b, 0, none⟩) 1 1, .int .i64 m] w fun e w' => (∃ a : Addr, e = .returned (.iface 37 (.pointer (some a)))) ∧ Below w.heap.size w w' := by
  have c0 := hc 0 (by omega)
  go_enter Ybaf.func4, Ybaf.ntmps4
  go_wp2_with fail
  go_region_held3 (fun w' => w'.cell? ⟨d, 0, none⟩ = some (.string path) ∧ w'.cell? ⟨b, 0, none⟩ = some (.string (ss.getD 0 ByteArray.empty)) ∧ F.answers w'.tape) (simp [go_sem, World.cell?_alloc_past, *])
    (first
      | (go_at_call 5; refine (errorf2 F _ path (ss.getD 0 ByteArray.empty) _ ?h0 ?h1 ?h2).mono ?_; (case h0 => simpa using hF); (case h1 => simp [go_sem]); (case h2 => simp [go_sem]); rintro e w' ⟨rfl, o, rfl⟩))
  go_wp2
  go_ret
  refine ⟨⟨_, rfl⟩, ?_⟩
  exact ((((Below.refl _ _).alloc (Nat.le_refl _) _).alloc (by simp) _).drew).drew

theorem unpriced_more (F : Interp) (d b n : Nat) (path : ByteArray) (ss : List ByteArray) (m : Int) (w : World) (hF : F.answers w.tape) (hn : 2 ≤ n) (hn' : n ≤ 1024) (hl : ss.length = n)
    (cd : w.cell? ⟨d, 0, none⟩ = some (.string path)) (hd : d < w.heap.size) (hb : b < w.heap.size)
    (hc : ∀ j, j < n → w.cell? ⟨b, j, none⟩ = some (.string (ss.getD j ByteArray.empty))) :
    Calls Ybaf.prog 4 #[.pointer (some ⟨d, 0, none⟩), .slice (some ⟨b, 0, none⟩) n n, .int .i64 m] w fun e w' => (∃ a : Addr, e = .returned (.iface 37 (.pointer (some a)))) ∧ Below w.heap.size w w' := by
  have hne : ((n : Int) == 1) = false := beq_eq_false_iff_ne.2 (by omega)
  go_enter Ybaf.func4, Ybaf.ntmps4
  go_wp2_with fail
  have H : Hid (∀ j, j < n → w.cell? ⟨b, j, none⟩ = some (.string (ss.getD j ByteArray.empty))) := hc
  clear hc
  go_region_held3 (fun w' => w'.cell? ⟨d, 0, none⟩ = some (.string path) ∧ Hid (∀ j, j < n → w'.cell? ⟨b, j, none⟩ = some (.string (ss.getD j ByteArray.empty))) ∧ F.answers w'.tape) (refine ⟨by simp [go_sem, World.cell?_alloc_past, *], by first | exact H | (intro j hj; have := H.out j hj; simpa [go_sem, World.cell?_alloc_past, *] using this), by simpa [go_sem] using hF⟩)
    (first
      | (go_at_call 6; refine (min_any b n ss _ (by omega) hn' hl ?h0).mono ?_; (case h0 => exact H.out); rintro e w' ⟨⟨s, rfl⟩, rfl⟩)
      | (go_at_call 5; refine (errorf4 F _ path n m _ ?h0 ?h1 ?h2 ?h3 ?h4).mono ?_; (case h0 => simpa using hF); (case h1 => simp [go_sem]); (case h2 => simp [go_sem]); (case h3 => simp [go_sem]); (case h4 => exact ⟨_, by simp [go_sem]; rfl⟩); rintro e w' ⟨rfl, o, rfl⟩))
  go_wp2
  go_ret
  refine ⟨⟨_, rfl⟩, ?_⟩
  exact ((((Below.refl _ _).alloc (Nat.le_refl _) _).alloc (by simp) _).drew).drew

end Go.Proofs.YbulkaiywFmt
