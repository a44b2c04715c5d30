/-
  The frame of the order's law: what keeps every block but those of P.
-/
import Derived.Test.YbulkaixgProg
import Derived.WalkKit
import Derived.ProofKit
import Derived.KernelRfl
import Derived.Below
import Derived.BigQuiet
namespace Go.Proofs.Ybulkaixg.Ord
open Go.RowKit
set_option linter.unusedVariables false
set_option linter.unusedSimpArgs false

structure Kp (P : Nat → Prop) (w w' : World) : Prop where
  os : w'.os = w.os
  tape : w'.tape = w.tape
  output : w'.output = w.output
  size : w.heap.size ≤ w'.heap.size
  block : ∀ b, b < w.heap.size → ¬ P b → w'.heap[b]? = w.heap[b]?

variable {P Q : Nat → Prop} {w w' w'' : World}
theorem Kp.refl (P : Nat → Prop) (w : World) : Kp P w w := ⟨rfl, rfl, rfl, Nat.le_refl _, fun _ _ _ => rfl⟩
theorem Kp.trans (h : Kp P w w') (k : Kp P w' w'') : Kp P w w'' :=
  ⟨k.os.trans h.os, k.tape.trans h.tape, k.output.trans h.output, Nat.le_trans h.size k.size, fun b hb hn => (k.block b (Nat.lt_of_lt_of_le hb h.size) hn).trans (h.block b hb hn)⟩
theorem Kp.trans' (h : Kp P w w') (k : Kp Q w' w'') (hs : ∀ b, b < w.heap.size → Q b → P b) : Kp P w w'' :=
  ⟨k.os.trans h.os, k.tape.trans h.tape, k.output.trans h.output, Nat.le_trans h.size k.size, fun b hb hn => (k.block b (Nat.lt_of_lt_of_le hb h.size) (fun q => hn (hs b hb q))).trans (h.block b hb hn)⟩
theorem Kp.set (h : Kp P w w') {a : Addr} (ha : P a.block ∨ w.heap.size ≤ a.block) (v : Value) : Kp P w (w'.setCell a v) :=
  ⟨h.os, h.tape, h.output, by simpa using h.size, fun b hb hn => (Below.heap_setCell w' a v b (fun e => by
    rcases ha with ha | ha
    · exact hn (by rw [e]; exact ha)
    · omega)).trans (h.block b hb hn)⟩
theorem Kp.alloc (h : Kp P w w') (o : Obj) : Kp P w (w'.alloc o) :=
  ⟨h.os, h.tape, h.output, by have := h.size; simp; omega, fun b hb hn => (Below.heap_alloc w' o b (Nat.lt_of_lt_of_le hb h.size)).trans (h.block b hb hn)⟩
theorem Kp.drew (h : Kp P w w') : Kp P w w'.drew := ⟨h.os, h.tape, h.output, h.size, h.block⟩
theorem Kp.drewN (h : Kp P w w') (n : Nat) : Kp P w (w'.drewN n) := ⟨h.os, h.tape, h.output, h.size, h.block⟩
theorem Kp.mono (h : Kp P w w') (hs : ∀ b, b < w.heap.size → P b → Q b) : Kp Q w w' := ⟨h.os, h.tape, h.output, h.size, fun b hb hn => h.block b hb (fun p => hn (hs b hb p))⟩
theorem Kp.below {B : Nat} (h : Kp P w w') (hB : B ≤ w.heap.size) (hs : ∀ b, b < B → ¬ P b) : Below B w w' := ⟨h.os, h.tape, h.output, h.size, fun b hb => h.block b (by omega) (hs b hb)⟩
theorem Kp.of_below (h : Below w.heap.size w w') : Kp P w w' := ⟨h.os, h.tape, h.output, h.size, fun b hb _ => h.block b hb⟩
theorem Kp.grown {r : Option Nat} (h : w.grownBy w' r) (hr : ∀ b, r = some b → P b) : Kp P w w' :=
  ⟨h.os, h.tape, h.output, h.size, fun j hj hn => h.block j hj (fun e => hn (hr j e.symm))⟩
theorem Kp.cell (h : Kp P w w') {b o : Nat} {v : Value} (hb : ¬ P b) (hc : w.cell? ⟨b, o, none⟩ = some v) : w'.cell? ⟨b, o, none⟩ = some v :=
  (World.cell?_of_block (h.block b (block_lt_of_cell hc) hb)).trans hc
theorem Kp.cellb (h : Kp P w w') {b o : Nat} (hl : b < w.heap.size) (hb : ¬ P b) : w'.cell? ⟨b, o, none⟩ = w.cell? ⟨b, o, none⟩ :=
  World.cell?_of_block (h.block b hl hb)
theorem Kp.frozen (h : Kp P w w') {b o : Nat} (hl : b < w.heap.size) (hb : ¬ P b) : w'.frozen? ⟨b, o, none⟩ = w.frozen? ⟨b, o, none⟩ :=
  World.frozen?_of_block (h.block b hl hb)
theorem some_keep {p q : Value → Prop} (h : ∃ v, p v) (k : ∀ v, p v → q v) : ∃ v, q v := by
  obtain ⟨v, hv⟩ := h
  exact ⟨v, k v hv⟩
theorem cset_ne (w : World) (b o b' o' : Nat) (v : Value) (h : ¬ (b' = b ∧ o' = o)) : (w.setCell ⟨b, o, none⟩ v).cell? ⟨b', o', none⟩ = w.cell? ⟨b', o', none⟩ :=
  World.cell?_setCell_other w _ _ _ (by intro e; apply h; cases e; exact ⟨rfl, rfl⟩)
theorem cset_eq (w : World) (b o : Nat) (v u : Value) (h : w.cell? ⟨b, o, none⟩ = some u) : (w.setCell ⟨b, o, none⟩ v).cell? ⟨b, o, none⟩ = some v :=
  World.cell?_setCell_same w _ _ h

end Go.Proofs.Ybulkaixg.Ord
