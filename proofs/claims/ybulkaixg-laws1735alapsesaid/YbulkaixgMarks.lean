/-
  THE WALKS of what Release calls: Elapsed (103), record (42), StoredUnder (43, 53, 54), ballotOf (55), keptUnder (44), tidy (23).
-/
import Derived.Test.YbulkaixgCmp
import Derived.Test.YbulkaixgMaps
import Derived.Test.YbulkaixgEnd
import Derived.Test.YbulkaixgLocks
import Derived.Deep.QuietTactic
import Derived.BigQuiet
namespace Go.Proofs.Ybulkaixg.Marks
open Go.RowKit Go.Maps Go.WideMaps Cmp Mp
set_option linter.unusedVariables false
set_option linter.unusedSimpArgs false
set_option maxRecDepth 100000
attribute [local go_sem ↓] Go.wp_at_zero Go.wp_at_succ

theorem compare_below (c1 c2 : Int) (m1 m2 : ByteArray) (w : World) :
    Calls Yba.prog 14 #[.agg #[.int .u64 c1, .string m1], .agg #[.int .u64 c2, .string m2]] w fun e w' =>
      e = .returned (.int .i64 (cmpV c1 m1.data.toList c2 m2.data.toList)) ∧ Below w.heap.size w w' :=
  (compare_any c1 c2 m1 m2 w).mono fun e w' ⟨he, o1, o2, o3, hw⟩ => ⟨he, by
    rw [hw]; exact ((((Below.refl _ _).alloc (Nat.le_refl _) _).alloc (by simp) _).alloc (by simp; omega) _).drew⟩

theorem cmpV_zero : cmpV 0 ((⟨#[]⟩ : ByteArray)).data.toList 0 ((⟨#[]⟩ : ByteArray)).data.toList = 0 := by simp [cmpV, Lib.compareBytes]

/-- the cells of a block below, behind a 'Below'. -/
theorem bcell {W w1 : World} (hb : Below W.heap.size W w1) : (∀ b o, b < W.heap.size → w1.cell? ⟨b, o, none⟩ = W.cell? ⟨b, o, none⟩) ∧ (∀ b o, b < W.heap.size → w1.frozen? ⟨b, o, none⟩ = W.frozen? ⟨b, o, none⟩) :=
  ⟨fun b o h => hb.cell (p := ⟨b, o, none⟩) h, fun b o h => hb.frozen (p := ⟨b, o, none⟩) h⟩

theorem elapsed_any (c : Nat) (now n : Int) (w : World) (h0 : w.cell? ⟨c, 0, none⟩ = some (.int .i64 now)) (h1 : w.cell? ⟨c, 1, none⟩ = some (.int .i64 n)) (f1 : w.frozen? ⟨c, 1, none⟩ = false) :
    Calls Yba.prog 103 #[.pointer (some ⟨c, 0, none⟩)] w fun e w' => e = .returned (.int .i64 now) ∧ w' = w.setCell ⟨c, 1, none⟩ (.int .i64 (wrap64 (n + 1))) := by
  go_enter Yba.func103, Yba.ntmps103
  go_wp2
  go_ret
  exact ⟨rfl, rfl⟩

/-- The zero Record. -/
def rec0 : Array Value := #[.int .u64 0, .string ⟨#[]⟩, .int .u64 0, .string ⟨#[]⟩, .bool false, .slice none 0 0, .bool false, .int .i64 0, .slice none 0 0, .int .u64 0, .string ⟨#[]⟩, .int .u64 0, .string ⟨#[]⟩, .bool false, .slice none 0 0]

theorem record_none (R K n : Nat) (D : DataW Unit) (key : ByteArray) (w : World) (hk : key.size ≤ maxLen) (h6 : w.cell? ⟨R, 6, none⟩ = some (.map (some K))) (hR : R < w.heap.size)
    (hown : w.ownsMap Yba.prog 9 ptrE K n D) (hD : ∀ l, D.atKey l .nil = .nil) :
    Calls Yba.prog 42 #[.pointer (some ⟨R, 0, none⟩), .string key] w fun e w' => e = .returned (.agg rec0) ∧ ∃ o : Obj, w' = w.alloc o := by
  obtain ⟨v, ps, hrun, hv⟩ := (hown.alloc (.cells rec0 137)).lookup law9 Yba.underlying50 (zero131 _) ptrE_nil (keyOf_string_mk Yba.underlying9 hk)
  rw [hD] at hv
  obtain rfl := ptrE_inv_nil hv
  unfold rec0 at *
  go_enter Yba.func42, Yba.ntmps42
  go_wp2
  exact bodyPost_ret (by simp [results, Yba.results42, go_sem]) rfl ⟨rfl, _, rfl⟩

/-- The zero Head. -/
def head0 : Array Value := #[.int .u64 0, .string ⟨#[]⟩, .int .u64 0, .string ⟨#[]⟩, .bool false, .bool false, .slice none 0 0, .bool false, .bool false, .int .u64 0, .string ⟨#[]⟩, .int .u64 0, .string ⟨#[]⟩, .bool false]

theorem head_zero (w : World) : Calls Yba.prog 53 #[.agg rec0] w fun e w' => e = .returned (.agg head0) ∧ ∃ o o2 : Obj, w' = (w.alloc o).alloc o2 := by
  unfold rec0 head0
  go_enter Yba.func53, Yba.ntmps53
  go_wp2
  exact bodyPost_ret (by simp [results, Yba.results53, go_sem]) rfl ⟨rfl, _, _, rfl⟩

theorem under_head_zero (w : World) : Calls Yba.prog 54 #[.agg head0] w fun e w' => e = .returned (.agg #[.int .u64 0, .string ⟨#[]⟩]) ∧ ∃ o o2 : Obj, w' = (w.alloc o).alloc o2 := by
  unfold head0
  go_enter Yba.func54, Yba.ntmps54
  go_wp2
  exact bodyPost_ret (by simp [results, Yba.results54, go_sem]) rfl ⟨rfl, _, _, rfl⟩

theorem under_zero (w : World) : Calls Yba.prog 43 #[.agg rec0] w fun e w' => e = .returned (.agg #[.int .u64 0, .string ⟨#[]⟩]) ∧ Below w.heap.size w w' := by
  have hr : rec0 = #[.int .u64 0, .string ⟨#[]⟩, .int .u64 0, .string ⟨#[]⟩, .bool false, .slice none 0 0, .bool false, .int .i64 0, .slice none 0 0, .int .u64 0, .string ⟨#[]⟩, .int .u64 0, .string ⟨#[]⟩, .bool false, .slice none 0 0] := rfl
  go_enter Yba.func43, Yba.ntmps43
  rw [hr]
  clear hr
  go_wp2_with fail
  refine (head_zero _).mono ?_
  rintro e w1 ⟨rfl, o, o2, rfl⟩
  go_wp2_with fail
  refine (under_head_zero _).mono ?_
  rintro e w1 ⟨rfl, o3, o4, rfl⟩
  go_wp2_with fail
  refine bodyPost_ret (by simp [results, Yba.results43, go_sem]) rfl ⟨rfl, ?_⟩
  exact ((((((Below.refl _ _).alloc (Nat.le_refl _) _).alloc (by simp) _).alloc (by simp; omega) _).alloc (by simp; omega) _).alloc (by simp; omega) _).alloc (by simp; omega) _

/-- ballotOf where the copy keeps no decision (the map is nil): the zero version. -/
theorem ballot_nil (R : Nat) (key : ByteArray) (w : World) (h44 : w.cell? ⟨R, 44, none⟩ = some (.map none)) (hR : R < w.heap.size) :
    Calls Yba.prog 55 #[.pointer (some ⟨R, 42, none⟩), .string key] w fun e w' => e = .returned (.agg #[.int .u64 0, .string ⟨#[]⟩]) ∧ Below w.heap.size w w' := by
  have hl : ∀ (w : World), (Instr.lookup 81 (.map none) (.string key) true).run Yba.prog w = .ok (.tuple #[.int .u32 0, .bool false]) w := fun w => by kernel_rfl
  go_enter Yba.func55, Yba.ntmps55
  go_wp2
  refine bodyPost_ret (by simp [results, Yba.results55, go_sem]) rfl ⟨rfl, ?_⟩
  exact (Below.refl _ _).alloc (Nat.le_refl _) _

/-- keptUnder at the zero version: the zero version. -/
theorem kept_zero (R : Nat) (key : ByteArray) (w : World) (h44 : w.cell? ⟨R, 44, none⟩ = some (.map none)) (hR : R < w.heap.size) :
    Calls Yba.prog 44 #[.pointer (some ⟨R, 0, none⟩), .string key, .agg #[.int .u64 0, .string ⟨#[]⟩]] w fun e w' => e = .returned (.agg #[.int .u64 0, .string ⟨#[]⟩]) ∧ Below w.heap.size w w' := by
  have hR1 : R < w.heap.size + 1 := by omega
  go_enter Yba.func44, Yba.ntmps44
  go_wp2_with fail
  refine (ballot_nil R key _ ?_ ?_).mono ?_
  · simp [World.cell?_alloc_past, hR, hR1, h44]
  · simp; omega
  rintro e w1 ⟨rfl, hb⟩
  obtain ⟨hc, hf⟩ := bcell hb
  have hs := hb.size
  simp at hs hc hf
  have hc0 : w1.cell? ⟨w.heap.size, 0, none⟩ = some (.int .u64 0) := by rw [hc _ _ (by omega)]; simp
  have hc1 : w1.cell? ⟨w.heap.size, 1, none⟩ = some (.string ⟨#[]⟩) := by rw [hc _ _ (by omega)]; simp
  have hd0 : w1.cell? ⟨w.heap.size + 1, 0, none⟩ = some (.int .u64 0) := by rw [hc _ _ (by omega)]; simp
  have hd1 : w1.cell? ⟨w.heap.size + 1, 1, none⟩ = some (.string ⟨#[]⟩) := by rw [hc _ _ (by omega)]; simp
  have hf0 : w1.frozen? ⟨w.heap.size + 1, 0, none⟩ = false := by rw [hf _ _ (by omega)]; simp
  have hf1 : w1.frozen? ⟨w.heap.size + 1, 1, none⟩ = false := by rw [hf _ _ (by omega)]; simp
  have hb1 : Below w.heap.size w w1 := (((Below.refl _ _).alloc (Nat.le_refl _) _).alloc (by simp) _).trans (hb.mono (by simp; omega))
  have hs0 : w.heap.size < w1.heap.size := by omega
  have hs1 : w.heap.size + 1 < w1.heap.size := by omega
  clear hc hf hb hs
  go_wp2_with fail
  refine (compare_below 0 0 ⟨#[]⟩ ⟨#[]⟩ _).mono ?_
  rintro e w2 ⟨rfl, hb2⟩
  rw [cmpV_zero]
  obtain ⟨hc, hf⟩ := bcell hb2
  have hs := hb2.size
  simp at hs hc hf
  have ec0 : w2.cell? ⟨w.heap.size, 0, none⟩ = some (.int .u64 0) := by rw [hc _ _ (by omega), World.cell?_alloc_past _ _ _ hs0]; exact hc0
  have ec1 : w2.cell? ⟨w.heap.size, 1, none⟩ = some (.string ⟨#[]⟩) := by rw [hc _ _ (by omega), World.cell?_alloc_past _ _ _ hs0]; exact hc1
  have ed0 : w2.cell? ⟨w.heap.size + 1, 0, none⟩ = some (.int .u64 0) := by rw [hc _ _ (by omega), World.cell?_alloc_past _ _ _ hs1]; exact hd0
  have ed1 : w2.cell? ⟨w.heap.size + 1, 1, none⟩ = some (.string ⟨#[]⟩) := by rw [hc _ _ (by omega), World.cell?_alloc_past _ _ _ hs1]; exact hd1
  have ef0 : w2.frozen? ⟨w.heap.size + 1, 0, none⟩ = false := by rw [hf _ _ (by omega), World.frozen?_alloc_past _ _ _ hs1]; exact hf0
  have ef1 : w2.frozen? ⟨w.heap.size + 1, 1, none⟩ = false := by rw [hf _ _ (by omega), World.frozen?_alloc_past _ _ _ hs1]; exact hf1
  have hb3 : Below w.heap.size w w2 := (hb1.alloc (by omega) _).trans (hb2.mono (by simp; omega))
  clear hc hf hb2 hs
  go_wp2_with fail
  exact bodyPost_ret (v := .agg #[.int .u64 0, .string ⟨#[]⟩]) (by simp [results, Yba.results44, go_sem, ed0, ed1]) rfl ⟨rfl, (hb3.setCell (by simp) _).setCell (by simp) _⟩

end Go.Proofs.Ybulkaixg.Marks
