/-
  The frame Fr, and the laws on copy, clear and append of rows of five cells.
-/
import Derived.Test.YbulkaixuProg
import Derived.WalkKit
import Derived.ProofKit
import Derived.KernelRfl
import Derived.Below
import Derived.Laws.IdiomCopy
import Derived.Deep.RegionLawGrows
import Derived.Deep.MidRow
import Derived.Deep.QuietTactic
import Derived.BigQuiet
import Derived.Deep.RegionHeld3
import Derived.Deep.DeepCutAuto
import Derived.Deep.CutBlock
import Derived.Deep.LoopGhost
namespace Go.Proofs.Ybulkaixu.Cnt
open Go.RowKit
set_option linter.unusedVariables false
set_option linter.unusedSimpArgs false
set_option maxRecDepth 100000

/-- w' is w with new blocks, and with writes to the blocks of the list alone. -/
structure Fr (bs : List Nat) (w w' : World) : Prop where
  os : w'.os = w.os
  tape : w'.tape = w.tape
  output : w'.output = w.output
  size : w.heap.size ≤ w'.heap.size
  block : ∀ b, b < w.heap.size → b ∉ bs → w'.heap[b]? = w.heap[b]?

theorem Fr.refl (bs : List Nat) (w : World) : Fr bs w w := ⟨rfl, rfl, rfl, Nat.le_refl _, fun _ _ _ => rfl⟩
theorem Fr.trans {bs : List Nat} {a b c : World} (h : Fr bs a b) (k : Fr bs b c) : Fr bs a c :=
  ⟨k.os.trans h.os, k.tape.trans h.tape, k.output.trans h.output, Nat.le_trans h.size k.size, fun j hj hn => (k.block j (Nat.lt_of_lt_of_le hj h.size) hn).trans (h.block j hj hn)⟩
theorem Fr.below {bs : List Nat} {w w' : World} (h : Below w.heap.size w w') : Fr bs w w' := ⟨h.os, h.tape, h.output, h.size, fun j hj _ => h.block j hj⟩
theorem Fr.grown {bs : List Nat} {w w' : World} {M : Nat} (h : w.grownBy w' (some M)) (hM : M ∈ bs) : Fr bs w w' :=
  ⟨h.os, h.tape, h.output, h.size, fun j hj hn => h.block j hj (fun e => hn (by cases e; exact hM))⟩
theorem Fr.set {bs : List Nat} (w : World) {a : Addr} (ha : a.block ∈ bs) (v : Value) : Fr bs w (w.setCell a v) :=
  ⟨rfl, rfl, rfl, by simp, fun j hj hn => Below.heap_setCell w a v j (fun e => hn (by rw [e]; exact ha))⟩
theorem Fr.alloc {bs : List Nat} (w : World) (o : Obj) : Fr bs w (w.alloc o) := Fr.below ((Below.refl _ _).alloc (Nat.le_refl _) o)
theorem Fr.drew {bs : List Nat} {w w' : World} (h : Fr bs w w') : Fr bs w w'.drew := ⟨h.os, h.tape, h.output, h.size, h.block⟩
theorem Fr.cell {bs : List Nat} {w w' : World} (h : Fr bs w w') {b o : Nat} {v : Value} (hb : b ∉ bs) (hc : w.cell? ⟨b, o, none⟩ = some v) : w'.cell? ⟨b, o, none⟩ = some v :=
  (World.cell?_of_block (h.block b (block_lt_of_cell hc) hb)).trans hc
theorem Fr.frozen {bs : List Nat} {w w' : World} (h : Fr bs w w') {b o : Nat} (hb : b ∉ bs) (hl : b < w.heap.size) : w'.frozen? ⟨b, o, none⟩ = w.frozen? ⟨b, o, none⟩ :=
  World.frozen?_of_block (h.block b hl hb)
theorem cset_ne (w : World) (b o b' o' : Nat) (v : Value) (h : ¬ (b' = b ∧ o' = o)) : (w.setCell ⟨b, o, none⟩ v).cell? ⟨b', o', none⟩ = w.cell? ⟨b', o', none⟩ :=
  World.cell?_setCell_other w _ _ _ (by intro e; apply h; cases e; exact ⟨rfl, rfl⟩)

theorem Fr.drewN {bs : List Nat} (w : World) (n : Nat) : Fr bs w (w.drewN n) := ⟨rfl, rfl, rfl, Nat.le_refl _, fun _ _ _ => rfl⟩
theorem Fr.wide {bs cs : List Nat} {w w' : World} (h : Fr bs w w') (hs : ∀ b, b ∈ bs → b ∈ cs) : Fr cs w w' := ⟨h.os, h.tape, h.output, h.size, fun b hb hn => h.block b hb (fun e => hn (hs b e))⟩
theorem Fr.under {bs : List Nat} {w w' : World} {B : Nat} (h : Fr bs w w') (hb : ∀ b, b ∈ bs → B ≤ b) (hB : B ≤ w.heap.size) : Below B w w' :=
  ⟨h.os, h.tape, h.output, h.size, fun j hj => h.block j (Nat.lt_of_lt_of_le hj hB) (fun e => Nat.lt_irrefl _ (Nat.lt_of_lt_of_le hj (hb j e)))⟩
theorem grownO {bs : List Nat} {w w' : World} {r : Option Nat} (h : w.grownBy w' r) (hr : ∀ b, r = some b → b ∈ bs) : Fr bs w w' :=
  ⟨h.os, h.tape, h.output, h.size, fun j hj hn => h.block j hj (fun e => hn (hr j e.symm))⟩

theorem grown_trans {a b c : World} {r : Option Nat} (h : a.grownBy b r) (k : b.grownBy c r) : a.grownBy c r :=
  ⟨k.os.trans h.os, k.tape.trans h.tape, k.output.trans h.output, Nat.le_trans h.size k.size, fun j hj hn => (k.block j (Nat.lt_of_lt_of_le hj h.size) hn).trans (h.block j hj hn)⟩
theorem grown_set (w : World) (b o : Nat) (v : Value) : w.grownBy (w.setCell ⟨b, o, none⟩ v) (some b) :=
  ⟨rfl, rfl, rfl, by simp, fun j hj hn => Below.heap_setCell w ⟨b, o, none⟩ v j (fun e => hn (by rw [e]))⟩
theorem grown_setCells (b : Nat) : ∀ (vs : List Value) (o : Nat) (w : World), w.grownBy (w.setCells b o vs) (some b)
  | [], _, w => ⟨rfl, rfl, rfl, Nat.le_refl _, fun _ _ _ => rfl⟩
  | v :: r, o, w => grown_trans (grown_set w b o v) (grown_setCells b r (o + 1) _)

/-- A code that ends normally: what a panic would have to meet is of no account. -/
def Calm (Q : Exit → Act → World → Prop) : Exit → Act → World → Prop := fun e a w =>
  match e with
  | .normal => Q .normal a w
  | _ => False
theorem wp_calm {P : Program} {c : Code} {Q : Exit → Act → World → Prop} {a : Act} {w : World} (h : c.wp P (Calm Q) a w) : c.wp P Q a w :=
  wp_mono h (by
    intro e a w h
    cases e <;> first | exact h | exact False.elim h)
theorem calm_mk {Q : Exit → Act → World → Prop} {a : Act} {w : World} (h : Q .normal a w) : Calm Q .normal a w := h


theorem info40 : ∃ i z, Yba.prog.info? 40 = some i ∧ i.zero = some z ∧ i.size = 5 ∧ i.bytes ≤ 100 ∧ z.cells.size = 5 := by
  have h : (Yba.prog.info? 40).map (fun i => (i.zero.map (fun z => z.cells.size), i.size, decide (i.bytes ≤ 100))) = some (some 5, 5, true) := by kernel_rfl
  obtain ⟨i, hi, hb⟩ := Option.map_eq_some_iff.1 h
  simp only [Prod.mk.injEq, decide_eq_true_eq] at hb
  obtain ⟨z, hz, hzs⟩ := Option.map_eq_some_iff.1 hb.1
  exact ⟨i, z, hi, hz, hb.2.1, hb.2.2, hzs⟩

/-- copy of rows of five cells: all is read before anything is written. -/
theorem run_copy5 (w : World) (ty : TypeId) (b o dLen dCap : Nat) (a : Addr) (sLen sCap : Nat) (cs : List Value) (m : Nat) (hm : m = Nat.min sLen dLen) (hn : cs.length = m * 5)
    (hsrc : ∀ j v, cs[j]? = some v → w.cell? (a.add j) = some v) (hc : ∀ j, j < cs.length → (w.cell? ⟨b, o + j, none⟩).isSome = true) (hf : ∀ j, j < cs.length → w.frozen? ⟨b, o + j, none⟩ = false) (h1 : ∀ v ∈ cs, v.oneCell' = true) :
    (Builtin.copy_ #[27, 27] ty #[.slice (some ⟨b, o, none⟩) dLen dCap, .slice (some a) sLen sCap]).run Yba.prog w = .ok (.int .i64 m) (w.setCells b o cs) := by
  obtain ⟨i, z, hi, hz, his, _, _⟩ := info40
  have hl := run_loadCells_list (P := Yba.prog) w a cs hsrc
  have hst := run_storeCells_cells (P := Yba.prog) b o cs 0 w (by simpa using hc) (by simpa using hf) h1
  rw [hn] at hl
  simp [Builtin.copy_, run_underlying Yba.underlying27, Builtin.lenOf, Builtin.firstCells, sizeOf, typeInfo, hi, his, ← hm, hl, hst, goInt]

theorem zero40 : ∃ z, (∀ w, (zeroValue 40).run Yba.prog w = .ok z w) ∧ z.cells.size = 5 ∧ ∀ v ∈ z.cells.toList, v.oneCell' = true := by
  refine ⟨.agg #[.int .u64 0, .int .i64 0, .pointer none, .int .u64 0, .pointer none], fun w => by kernel_rfl, rfl, ?_⟩
  intro v hv
  simp [Value.cells] at hv
  rcases hv with rfl | rfl | rfl | rfl | rfl <;> rfl

/-- clear of a row of five cells each. -/
theorem run_clear5 (w : World) (ty : TypeId) (b o n c : Nat) (hc : ∀ j, j < n * 5 → (w.cell? ⟨b, o + j, none⟩).isSome = true) (hf : ∀ j, j < n * 5 → w.frozen? ⟨b, o + j, none⟩ = false) :
    ∃ zs : List Value, zs.length = n * 5 ∧ ∀ ty, (Builtin.clear_ #[27] ty #[.slice (some ⟨b, o, none⟩) n c]).run Yba.prog w = .ok (.tuple #[]) (w.setCells b o zs) := by
  obtain ⟨z, hv, hzs, h1⟩ := zero40
  cases n with
  | zero => exact ⟨[], rfl, fun ty => by simp [Builtin.clear_, run_underlying Yba.underlying27, World.setCells]⟩
  | succ m =>
    have hlen : (Builtin.zeroCells z.cells (m + 1)).toList.length = (m + 1) * 5 := by simp [Builtin.zeroCells, hzs]
    have h1' : ∀ v ∈ (Builtin.zeroCells z.cells (m + 1)).toList, v.oneCell' = true := by
      intro v hv
      simp [Builtin.zeroCells] at hv
      obtain ⟨i, hi, rfl⟩ := hv
      have hlt : i % z.cells.size < z.cells.size := Nat.mod_lt _ (by omega)
      rw [getElem!_pos z.cells _ hlt]
      exact h1 _ (by simp)
    have hst := run_storeCells_cells (P := Yba.prog) b o (Builtin.zeroCells z.cells (m + 1)).toList 0 w (by rw [hlen]; simpa using hc) (by rw [hlen]; simpa using hf) h1'
    simp only [Nat.add_zero] at hst
    exact ⟨_, hlen, fun ty => by simp [Builtin.clear_, run_underlying Yba.underlying27, hv, hst]⟩

end Go.Proofs.Ybulkaixu.Cnt
