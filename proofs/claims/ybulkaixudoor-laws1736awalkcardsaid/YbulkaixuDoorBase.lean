/-
  The frame Fr.
-/
import Derived.Test.YbulkaixuDoorProg
import Derived.WalkKit
import Derived.ProofKit
import Derived.KernelRfl
import Derived.Below
import Derived.Laws.IdiomCopy
import Derived.Deep.RegionLawGrows
import Derived.Deep.MidRow
import Derived.Deep.QuietTactic
import Derived.BigQuiet
import Derived.Deep.RegionHeld3
import Derived.Deep.DeepCutAuto
import Derived.Deep.CutBlock
import Derived.Deep.LoopGhost
namespace Go.Proofs.YbulkaixuDoor.Walk
open Go.RowKit
set_option linter.unusedVariables false
set_option linter.unusedSimpArgs false
set_option maxRecDepth 100000

/-- w' is w with new blocks, and with writes to the blocks of the list alone. -/
structure Fr (bs : List Nat) (w w' : World) : Prop where
  os : w'.os = w.os
  tape : w'.tape = w.tape
  output : w'.output = w.output
  size : w.heap.size ≤ w'.heap.size
  block : ∀ b, b < w.heap.size → b ∉ bs → w'.heap[b]? = w.heap[b]?

theorem Fr.refl (bs : List Nat) (w : World) : Fr bs w w := ⟨rfl, rfl, rfl, Nat.le_refl _, fun _ _ _ => rfl⟩
theorem Fr.trans {bs : List Nat} {a b c : World} (h : Fr bs a b) (k : Fr bs b c) : Fr bs a c :=
  ⟨k.os.trans h.os, k.tape.trans h.tape, k.output.trans h.output, Nat.le_trans h.size k.size, fun j hj hn => (k.block j (Nat.lt_of_lt_of_le hj h.size) hn).trans (h.block j hj hn)⟩
theorem Fr.below {bs : List Nat} {w w' : World} (h : Below w.heap.size w w') : Fr bs w w' := ⟨h.os, h.tape, h.output, h.size, fun j hj _ => h.block j hj⟩
theorem Fr.grown {bs : List Nat} {w w' : World} {M : Nat} (h : w.grownBy w' (some M)) (hM : M ∈ bs) : Fr bs w w' :=
  ⟨h.os, h.tape, h.output, h.size, fun j hj hn => h.block j hj (fun e => hn (by cases e; exact hM))⟩
theorem Fr.set {bs : List Nat} (w : World) {a : Addr} (ha : a.block ∈ bs) (v : Value) : Fr bs w (w.setCell a v) :=
  ⟨rfl, rfl, rfl, by simp, fun j hj hn => Below.heap_setCell w a v j (fun e => hn (by rw [e]; exact ha))⟩
theorem Fr.alloc {bs : List Nat} (w : World) (o : Obj) : Fr bs w (w.alloc o) := Fr.below ((Below.refl _ _).alloc (Nat.le_refl _) o)
theorem Fr.drew {bs : List Nat} {w w' : World} (h : Fr bs w w') : Fr bs w w'.drew := ⟨h.os, h.tape, h.output, h.size, h.block⟩
theorem Fr.cell {bs : List Nat} {w w' : World} (h : Fr bs w w') {b o : Nat} {v : Value} (hb : b ∉ bs) (hc : w.cell? ⟨b, o, none⟩ = some v) : w'.cell? ⟨b, o, none⟩ = some v :=
  (World.cell?_of_block (h.block b (block_lt_of_cell hc) hb)).trans hc
theorem Fr.frozen {bs : List Nat} {w w' : World} (h : Fr bs w w') {b o : Nat} (hb : b ∉ bs) (hl : b < w.heap.size) : w'.frozen? ⟨b, o, none⟩ = w.frozen? ⟨b, o, none⟩ :=
  World.frozen?_of_block (h.block b hl hb)
theorem cset_ne (w : World) (b o b' o' : Nat) (v : Value) (h : ¬ (b' = b ∧ o' = o)) : (w.setCell ⟨b, o, none⟩ v).cell? ⟨b', o', none⟩ = w.cell? ⟨b', o', none⟩ :=
  World.cell?_setCell_other w _ _ _ (by intro e; apply h; cases e; exact ⟨rfl, rfl⟩)

theorem Fr.drewN {bs : List Nat} (w : World) (n : Nat) : Fr bs w (w.drewN n) := ⟨rfl, rfl, rfl, Nat.le_refl _, fun _ _ _ => rfl⟩
theorem Fr.wide {bs cs : List Nat} {w w' : World} (h : Fr bs w w') (hs : ∀ b, b ∈ bs → b ∈ cs) : Fr cs w w' := ⟨h.os, h.tape, h.output, h.size, fun b hb hn => h.block b hb (fun e => hn (hs b e))⟩
theorem Fr.under {bs : List Nat} {w w' : World} {B : Nat} (h : Fr bs w w') (hb : ∀ b, b ∈ bs → B ≤ b) (hB : B ≤ w.heap.size) : Below B w w' :=
  ⟨h.os, h.tape, h.output, h.size, fun j hj => h.block j (Nat.lt_of_lt_of_le hj hB) (fun e => Nat.lt_irrefl _ (Nat.lt_of_lt_of_le hj (hb j e)))⟩
theorem grownO {bs : List Nat} {w w' : World} {r : Option Nat} (h : w.grownBy w' r) (hr : ∀ b, r = some b → b ∈ bs) : Fr bs w w' :=
  ⟨h.os, h.tape, h.output, h.size, fun j hj hn => h.block j hj (fun e => hn (hr j e.symm))⟩

theorem grown_trans {a b c : World} {r : Option Nat} (h : a.grownBy b r) (k : b.grownBy c r) : a.grownBy c r :=
  ⟨k.os.trans h.os, k.tape.trans h.tape, k.output.trans h.output, Nat.le_trans h.size k.size, fun j hj hn => (k.block j (Nat.lt_of_lt_of_le hj h.size) hn).trans (h.block j hj hn)⟩
theorem grown_set (w : World) (b o : Nat) (v : Value) : w.grownBy (w.setCell ⟨b, o, none⟩ v) (some b) :=
  ⟨rfl, rfl, rfl, by simp, fun j hj hn => Below.heap_setCell w ⟨b, o, none⟩ v j (fun e => hn (by rw [e]))⟩
theorem grown_setCells (b : Nat) : ∀ (vs : List Value) (o : Nat) (w : World), w.grownBy (w.setCells b o vs) (some b)
  | [], _, w => ⟨rfl, rfl, rfl, Nat.le_refl _, fun _ _ _ => rfl⟩
  | v :: r, o, w => grown_trans (grown_set w b o v) (grown_setCells b r (o + 1) _)

/-- A code that ends normally: what a panic would have to meet is of no account. -/
def Calm (Q : Exit → Act → World → Prop) : Exit → Act → World → Prop := fun e a w =>
  match e with
  | .normal => Q .normal a w
  | _ => False
theorem wp_calm {P : Program} {c : Code} {Q : Exit → Act → World → Prop} {a : Act} {w : World} (h : c.wp P (Calm Q) a w) : c.wp P Q a w :=
  wp_mono h (by
    intro e a w h
    cases e <;> first | exact h | exact False.elim h)
theorem calm_mk {Q : Exit → Act → World → Prop} {a : Act} {w : World} (h : Q .normal a w) : Calm Q .normal a w := h


end Go.Proofs.YbulkaixuDoor.Walk
