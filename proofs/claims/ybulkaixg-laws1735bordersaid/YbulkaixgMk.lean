/-
  make of a row: what the new block holds.
-/
import Derived.Test.YbulkaixgKp
import Derived.Laws.MakeOwn
namespace Go.Proofs.Ybulkaixg.Ord
open Go.RowKit
set_option linter.unusedVariables false
set_option linter.unusedSimpArgs false

theorem mk_any (t e : TypeId) (zs : Array Value) (sz : Nat) (ht : Yba.prog.underlying t = some (.slice e)) (h : (Yba.prog.info? e).map (fun i => (i.zero.map (·.cells), i.size, decide (i.bytes ≤ 1024))) = some (some zs, sz, true)) (n : Nat) (hn : n ≤ 4096) :
    ∀ w, (Instr.makeSlice t (.int .i64 (n : Int)) (.int .i64 (n : Int))).run Yba.prog w = .ok (.slice (some ⟨w.heap.size, 0, none⟩) n n) (w.alloc (.cells (madeCells zs (n * sz)) e)) := by
  intro w
  obtain ⟨i, hi, hb⟩ := Option.map_eq_some_iff.1 h
  simp only [Prod.mk.injEq, decide_eq_true_eq] at hb
  obtain ⟨z, hz, hzs⟩ := Option.map_eq_some_iff.1 hb.1
  have hby : (i.bytes : Int) * (n : Int) ≤ 281474976710656 := by
    have h1 : i.bytes * n ≤ 1024 * 4096 := Nat.mul_le_mul hb.2.2 hn
    have h2 : ((i.bytes * n : Nat) : Int) ≤ 281474976710656 := by omega
    rwa [Int.natCast_mul] at h2
  have hr := run_make (P := Yba.prog) w t e i z ht hi hz .i64 .i64 n n (by omega) (by omega) hby (by omega)
  rw [Int.toNat_natCast, hb.2.1] at hr
  rw [hr, hzs]

theorem made1 (v : Value) (n j : Nat) (hj : j < n) : (madeCells #[v] (n * 1))[j]? = some v := by
  simp [madeCells, hj, Nat.mod_one]
theorem made2a (u v : Value) (n j : Nat) (hj : j < n) : (madeCells #[u, v] (n * 2))[j * 2]? = some u := by
  simp [madeCells, show j * 2 < n * 2 by omega]
theorem made2b (u v : Value) (n j : Nat) (hj : j < n) : (madeCells #[u, v] (n * 2))[j * 2 + 1]? = some v := by
  have : (j * 2 + 1) % 2 = 1 := by omega
  simp [madeCells, show j * 2 + 1 < n * 2 by omega, this]

theorem mk103 (n : Nat) (hn : n ≤ 4096) : ∃ Z : Array Value, (∀ w, (Instr.makeSlice 103 (.int .i64 (n : Int)) (.int .i64 (n : Int))).run Yba.prog w = .ok (.slice (some ⟨w.heap.size, 0, none⟩) n n) (w.alloc (.cells Z 131))) ∧ ∀ j, j < n → Z[j]? = some (.pointer none) :=
  ⟨_, mk_any 103 131 #[.pointer none] 1 Yba.underlying103 (by kernel_rfl) n hn, fun j hj => made1 _ n j hj⟩
theorem mk148 (n : Nat) (hn : n ≤ 4096) : ∃ Z : Array Value, (∀ w, (Instr.makeSlice 148 (.int .i64 (n : Int)) (.int .i64 (n : Int))).run Yba.prog w = .ok (.slice (some ⟨w.heap.size, 0, none⟩) n n) (w.alloc (.cells Z 23))) ∧ ∀ j, j < n → Z[j]? = some (.int .u64 0) :=
  ⟨_, mk_any 148 23 #[.int .u64 0] 1 Yba.underlying148 (by kernel_rfl) n hn, fun j hj => made1 _ n j hj⟩
theorem mk51 (n : Nat) (hn : n ≤ 4096) : ∃ Z : Array Value, (∀ w, (Instr.makeSlice 51 (.int .i64 (n : Int)) (.int .i64 (n : Int))).run Yba.prog w = .ok (.slice (some ⟨w.heap.size, 0, none⟩) n n) (w.alloc (.cells Z 138))) ∧ ∀ j, j < n → Z[j]? = some (.pointer none) :=
  ⟨_, mk_any 51 138 #[.pointer none] 1 Yba.underlying51 (by kernel_rfl) n hn, fun j hj => made1 _ n j hj⟩
theorem mk83 (n : Nat) (hn : n ≤ 4096) : ∃ Z : Array Value, (∀ w, (Instr.makeSlice 83 (.int .i64 (n : Int)) (.int .i64 (n : Int))).run Yba.prog w = .ok (.slice (some ⟨w.heap.size, 0, none⟩) n n) (w.alloc (.cells Z 3))) ∧ ∀ j, j < n → Z[j]? = some (.int .i64 0) :=
  ⟨_, mk_any 83 3 #[.int .i64 0] 1 Yba.underlying83 (by kernel_rfl) n hn, fun j hj => made1 _ n j hj⟩
theorem mk188 (n : Nat) (hn : n ≤ 4096) : ∃ Z : Array Value, (∀ w, (Instr.makeSlice 188 (.int .i64 (n : Int)) (.int .i64 (n : Int))).run Yba.prog w = .ok (.slice (some ⟨w.heap.size, 0, none⟩) n n) (w.alloc (.cells Z 191))) ∧ (∀ j, j < n → Z[j * 2]? = some (.int .u64 0)) ∧ ∀ j, j < n → Z[j * 2 + 1]? = some (.int .i64 0) :=
  ⟨_, mk_any 188 191 #[.int .u64 0, .int .i64 0] 2 Yba.underlying188 (by kernel_rfl) n hn, fun j hj => made2a _ _ n j hj, fun j hj => made2b _ _ n j hj⟩

end Go.Proofs.Ybulkaixg.Ord
