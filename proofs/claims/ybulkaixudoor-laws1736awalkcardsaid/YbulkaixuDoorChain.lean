/-
  zzs1736achain (5).
-/
import Derived.Test.YbulkaixuDoorMeets
import Derived.Laws.OwnMore
namespace Go.Proofs.YbulkaixuDoor.Walk
open Go.RowKit
set_option linter.unusedVariables false
set_option linter.unusedSimpArgs false
set_option maxRecDepth 100000

/-- The slice of slices holds the n slices A, L, C. -/
def Sets (w : World) (a0 : Option Addr) (n : Nat) (A : Nat → Option Addr) (L C : Nat → Nat) : Prop := ∀ i, i < n → ∃ x, a0 = some x ∧ w.cell? (x.add i) = some (.slice (A i) (L i) (C i))

theorem Sets.below {w w' : World} {a0 : Option Addr} {n : Nat} {A : Nat → Option Addr} {L C : Nat → Nat} (h : Sets w a0 n A L C) (hb : Below w.heap.size w w') : Sets w' a0 n A L C := by
  intro i hi
  obtain ⟨x, e, hc⟩ := h i hi
  exact ⟨x, e, (hb.cell (p := x.add i) (cell_lt hc)).trans hc⟩

/-- Where the next of node t leads when k nodes have been chained. -/
def nxt (Nb k t : Nat) : Value := if t + 1 < k then .pointer (some ⟨Nb, (t + 1) * 19, none⟩) else .pointer none

structure Chain (w : World) (Nb n k : Nat) (A : Nat → Option Addr) (L C : Nat → Nat) : Prop where
  lt : Nb < w.heap.size
  sp : ∀ j, j < n * 19 → (w.cell? ⟨Nb, j, none⟩).isSome = true ∧ w.frozen? ⟨Nb, j, none⟩ = false
  heaps : ∀ t, t < k → w.cell? ⟨Nb, t * 19 + 10, none⟩ = some (.slice (A t) (L t) (C t))
  next : ∀ t, t < n → w.cell? ⟨Nb, t * 19 + 16, none⟩ = some (nxt Nb k t)

theorem Chain.keep {bs : List Nat} {w w' : World} {Nb n k : Nat} {A : Nat → Option Addr} {L C : Nat → Nat} (h : Chain w Nb n k A L C) (hf : Fr bs w w') (hb : Nb ∉ bs) : Chain w' Nb n k A L C := by
  have e : w'.heap[Nb]? = w.heap[Nb]? := hf.block Nb h.lt hb
  exact ⟨Nat.lt_of_lt_of_le h.lt hf.size, fun j hj => ⟨by rw [World.cell?_of_block (a := ⟨Nb, j, none⟩) e]; exact (h.sp j hj).1, by rw [World.frozen?_of_block (a := ⟨Nb, j, none⟩) e]; exact (h.sp j hj).2⟩,
    fun t ht => hf.cell hb (h.heaps t ht), fun t ht => hf.cell hb (h.next t ht)⟩

theorem Chain.set {w : World} {Nb n k j : Nat} {A : Nat → Option Addr} {L C : Nat → Nat} (h : Chain w Nb n k A L C) (v : Value) (h10 : ∀ t, t < k → t * 19 + 10 ≠ j) (h16 : ∀ t, t < n → t * 19 + 16 ≠ j) : Chain (w.setCell ⟨Nb, j, none⟩ v) Nb n k A L C := by
  refine ⟨by simpa using h.lt, fun i hi => ⟨?_, by simpa using (h.sp i hi).2⟩, fun t ht => ?_, fun t ht => ?_⟩
  · exact World.isSome_setCells Nb [v] j w _ (h.sp i hi).1
  · rw [cset_ne _ _ _ _ _ _ (fun e => h10 t ht e.2)]; exact h.heaps t ht
  · rw [cset_ne _ _ _ _ _ _ (fun e => h16 t ht e.2)]; exact h.next t ht

/-- Node k laid down: the first. -/
theorem Chain.first {w : World} {Nb n : Nat} {A : Nat → Option Addr} {L C : Nat → Nat} (h : Chain w Nb n 0 A L C) (hn : 0 < n) (q : Value) :
    Chain ((w.setCell ⟨Nb, 10, none⟩ (.slice (A 0) (L 0) (C 0))).setCell ⟨Nb, 14, none⟩ q) Nb n 1 A L C := by
  have h1 := (h.set (j := 10) (.slice (A 0) (L 0) (C 0)) (fun t ht => by omega) (fun t ht => by omega)).set (j := 14) q (fun t ht => by omega) (fun t ht => by omega)
  refine ⟨h1.lt, h1.sp, fun t ht => ?_, fun t ht => ?_⟩
  · obtain rfl : t = 0 := by omega
    rw [cset_ne _ _ _ _ _ _ (by omega)]
    obtain ⟨u, hu⟩ := Option.isSome_iff_exists.1 (h.sp 10 (by omega)).1
    exact World.cell?_setCell_same _ _ _ hu
  · have := h1.next t ht
    rw [this]
    simp [nxt]

theorem Chain.more {w : World} {Nb n k : Nat} {A : Nat → Option Addr} {L C : Nat → Nat} (h : Chain w Nb n (k + 1) A L C) (hn : k + 1 < n) (q p : Value) :
    Chain ((((w.setCell ⟨Nb, (k + 1) * 19 + 10, none⟩ (.slice (A (k + 1)) (L (k + 1)) (C (k + 1)))).setCell ⟨Nb, (k + 1) * 19 + 14, none⟩ q).setCell ⟨Nb, (k + 1) * 19 + 15, none⟩ p).setCell ⟨Nb, k * 19 + 16, none⟩ (.pointer (some ⟨Nb, (k + 1) * 19, none⟩))) Nb n (k + 2) A L C := by
  have h1 := ((h.set (j := (k + 1) * 19 + 10) (.slice (A (k + 1)) (L (k + 1)) (C (k + 1))) (fun t ht => by omega) (fun t ht => by omega)).set (j := (k + 1) * 19 + 14) q (fun t ht => by omega) (fun t ht => by omega)).set (j := (k + 1) * 19 + 15) p (fun t ht => by omega) (fun t ht => by omega)
  refine ⟨by simpa using h1.lt, fun i hi => ⟨World.isSome_setCells Nb [_] _ _ _ (h1.sp i hi).1, by simpa using (h1.sp i hi).2⟩, fun t ht => ?_, fun t ht => ?_⟩
  · rw [cset_ne _ _ _ _ _ _ (by omega)]
    by_cases e : t = k + 1
    · subst e
      rw [cset_ne _ _ _ _ _ _ (by omega), cset_ne _ _ _ _ _ _ (by omega)]
      obtain ⟨u, hu⟩ := Option.isSome_iff_exists.1 (h.sp ((k + 1) * 19 + 10) (by omega)).1
      exact World.cell?_setCell_same _ _ _ hu
    · exact h1.heaps t (by omega)
  · by_cases e : t = k
    · subst e
      have : nxt Nb (t + 2) t = .pointer (some ⟨Nb, (t + 1) * 19, none⟩) := by simp [nxt]
      rw [this]
      exact World.cell?_setCell_same _ _ _ (h1.next t (by omega))
    · rw [cset_ne _ _ _ _ _ _ (by omega), h1.next t ht]
      unfold nxt
      by_cases e1 : t + 1 < k + 1
      · rw [if_pos e1, if_pos (by omega)]
      · rw [if_neg e1, if_neg (by omega)]

theorem info63 : ∃ i z, Ybad.prog.info? 63 = some i ∧ i.zero = some z ∧ i.size = 19 ∧ i.bytes ≤ 1000 ∧ z.cells.size = 19 ∧ z.cells[16]? = some (.pointer none) := by
  have h : (Ybad.prog.info? 63).map (fun i => (i.zero.map (fun z => (z.cells.size, z.cells[16]?)), i.size, decide (i.bytes ≤ 1000))) = some (some (19, some (.pointer none)), 19, true) := by kernel_rfl
  obtain ⟨i, hi, hb⟩ := Option.map_eq_some_iff.1 h
  simp only [Prod.mk.injEq, decide_eq_true_eq] at hb
  obtain ⟨z, hz, hzs⟩ := Option.map_eq_some_iff.1 hb.1
  simp only [Prod.mk.injEq] at hzs
  exact ⟨i, z, hi, hz, hb.2.1, hb.2.2, hzs.1, hzs.2⟩

theorem run_make (W : World) (n : Nat) (hn : n ≤ 1024) (A : Nat → Option Addr) (L C : Nat → Nat) : ∃ w', (Instr.makeSlice 25 (.int .i64 (n : Int)) (.int .i64 (n : Int))).run Ybad.prog W = .ok (.slice (some ⟨W.heap.size, 0, none⟩) n n) w' ∧ Fr [] W w' ∧ w'.heap.size = W.heap.size + 1 ∧ Chain w' W.heap.size n 0 A L C := by
  obtain ⟨i, z, hi, hz, his, hib, hzs, hz16⟩ := info63
  have hby : ((i.bytes : Nat) : Int) * (n : Int) ≤ 281474976710656 := by
    have h1 : i.bytes * n ≤ 1000 * 1024 := Nat.mul_le_mul hib hn
    have h2 : ((i.bytes * n : Nat) : Int) = (i.bytes : Int) * (n : Int) := by rw [Int.natCast_mul]
    omega
  have hrun := run_makeSlice (P := Ybad.prog) W 25 63 i z Ybad.underlying25 hi hz .i64 .i64 (n : Int) (n : Int) (by omega) (by omega) (by rw [Int.toNat_natCast, his]; omega) hby (by omega)
  rw [Int.toNat_natCast, his] at hrun
  have hs := size_madeCells z.cells (n * 19)
  refine ⟨_, hrun, Fr.alloc _ _, by simp, ⟨by simp, fun j hj => ⟨?_, World.frozen?_alloc_at _ _ _ _ rfl⟩, fun t ht => by omega, fun t ht => ?_⟩⟩
  · rw [World.cell?_alloc_at _ _ _ _ rfl]
    simp [hs, hj]
  · rw [World.cell?_alloc_at _ _ _ _ rfl]
    have hlt : (t * 19 + 16) % z.cells.size < z.cells.size := Nat.mod_lt _ (by omega)
    have e : (t * 19 + 16) % z.cells.size = 16 := by rw [hzs]; omega
    have h16 : z.cells[16]! = .pointer none := by
      obtain ⟨h1, h2⟩ := Array.getElem?_eq_some_iff.1 hz16
      rw [getElem!_pos z.cells 16 h1, h2]
    simp only [madeCells, Array.getElem?_map]
    rw [Array.getElem?_range, if_pos (by omega)]
    simp only [Option.map_some]
    rw [e, h16]
    simp [nxt]

end Go.Proofs.YbulkaixuDoor.Walk
