/-
  THE MAPS OF A Replica: marks (map[string]*keyMarks, 59), keys (map[string]*held, 50), released (map[release]bool, 60): the keys' laws, how a pointer element reads, look-up, store, delete.
-/
import Derived.Test.YbulkaixgProg
import Derived.WalkKit
import Derived.ProofKit
import Derived.Maps.OwnSet
import Derived.Maps.OwnOps
import Derived.DeepKeys4
import Derived.KernelRfl
namespace Go.Proofs.Ybulkaixg.Mp
open Go.RowKit Go.Maps
set_option linter.unusedVariables false
set_option linter.unusedSimpArgs false

theorem laidOut : laidOutB Yba.prog = true := by kernel_rfl
theorem law9 : Keyed Yba.prog 9 := string_keyed Yba.underlying9
theorem row37 : 37 < Yba.prog.types.size := by
  have h : decide (37 < Yba.prog.types.size) = true := by kernel_rfl
  exact of_decide_eq_true h
theorem wide37 : (match Yba.prog.underlying 37 with | some (.array _ _) | some (.struct _) => true | _ => false) = true := by rw [Yba.underlying37]
set_option maxRecDepth 100000 in
theorem law37 : Keyed Yba.prog 37 := Keyed.of_law (deep_law_laid laidOut (m := 4) (by omega) row37 (by kernel_rfl) wide37)

theorem fuel : ∃ d, Yba.prog.types.size + 1 = d + 5 := by
  have h := row37
  exact ⟨Yba.prog.types.size - 4, by omega⟩
theorem keyType37 : Yba.prog.keyType 37 = true := by kernel_rfl
theorem cells37 : Yba.prog.cellsOf 37 = 4 := by kernel_rfl
theorem cells33 : Yba.prog.cellsOf 33 = 3 := by kernel_rfl
theorem cells31 : Yba.prog.cellsOf 31 = 2 := by kernel_rfl
theorem cells23 : Yba.prog.cellsOf 23 = 1 := by kernel_rfl
theorem cells9 : Yba.prog.cellsOf 9 = 1 := by kernel_rfl
theorem cells2 : Yba.prog.cellsOf 2 = 1 := by kernel_rfl

/-- A release as a value. -/
abbrev relV (k : ByteArray) (s c : Int) (m : ByteArray) : Value := .agg #[.string k, .int .i64 s, .int .u64 c, .string m]

/-- .. as a key. -/
def relK (k : ByteArray) (s c : Int) (m : ByteArray) : Lit := .string (keyBytes [.string k.data.toList, .int .i64 s, .int .u64 c, .string m.data.toList])

theorem lits31 (d : Nat) (c : Int) (m : ByteArray) (hc : (Lit.int .u64 c).wf = true) (hm : m.size ≤ maxLen) :
    Yba.prog.keyLits (d + 2) 31 [.int .u64 c, .string m] = some [.int .u64 c, .string m.data.toList] := by
  unfold Program.keyLits
  rw [Yba.underlying31]
  dsimp only
  rw [if_pos ⟨by rw [cells31]; rfl, by kernel_rfl⟩]
  simp [Program.keyLits, Yba.underlying23, Yba.underlying9, cells23, cells9, hc, hm]

theorem lits33 (d : Nat) (s c : Int) (m : ByteArray) (hs : (Lit.int .i64 s).wf = true) (hc : (Lit.int .u64 c).wf = true) (hm : m.size ≤ maxLen) :
    Yba.prog.keyLits (d + 3) 33 [.int .i64 s, .int .u64 c, .string m] = some [.int .i64 s, .int .u64 c, .string m.data.toList] := by
  unfold Program.keyLits
  rw [Yba.underlying33]
  dsimp only
  rw [if_pos ⟨by rw [cells33]; rfl, by kernel_rfl⟩]
  have h := lits31 d c m hc hm
  have h2 : Yba.prog.keyLits (d + 2) 2 [.int .i64 s] = some [.int .i64 s] := by simp [Program.keyLits, Yba.underlying2, hs]
  simp [cells2, cells31, h, h2]

theorem key37 (k : ByteArray) (s c : Int) (m : ByteArray) (hk : k.size ≤ maxLen) (hs : (Lit.int .i64 s).wf = true) (hc : (Lit.int .u64 c).wf = true) (hm : m.size ≤ maxLen) :
    keyOf Yba.prog 37 (relV k s c m) = some (relK k s c m) := by
  obtain ⟨d, hd⟩ := fuel
  have hl : Yba.prog.keyLits (d + 5) 37 [.string k, .int .i64 s, .int .u64 c, .string m] = some [.string k.data.toList, .int .i64 s, .int .u64 c, .string m.data.toList] := by
    unfold Program.keyLits
    rw [Yba.underlying37]
    dsimp only
    rw [if_pos ⟨by rw [cells37]; rfl, by kernel_rfl⟩]
    have h := lits33 (d + 1) s c m hs hc hm
    have h2 : Yba.prog.keyLits (d + 4) 9 [.string k] = some [.string k.data.toList] := by simp [Program.keyLits, Yba.underlying9, hk]
    simp [cells9, cells33, h, h2]
  unfold keyOf
  rw [Yba.underlying37, hd]
  simp [keyType37, Value.formed, Yba.underlying37, cells37, Value.cells, hl, relK]

/-- How a pointer to a block's head reads. -/
def ptrE : Value → Option (DataW Unit × List MemPlace)
  | .pointer none => some (.nil, [])
  | .pointer (some ⟨b, 0, none⟩) => some (.lit (.int .i64 b), [])
  | _ => none

theorem ptrE_some (b : Nat) : ptrE (.pointer (some ⟨b, 0, none⟩)) = some (.lit (.int .i64 b), []) := rfl
theorem ptrE_nil : ptrE (.pointer none) = some (.nil, []) := rfl
theorem ptrE_inv_nil {v : Value} {ps : List MemPlace} (h : ptrE v = some (.nil, ps)) : v = .pointer none := by
  unfold ptrE at h
  split at h <;> simp at h
  rfl
theorem ptrE_inv {v : Value} {b : Nat} {ps : List MemPlace} (h : ptrE v = some (.lit (.int .i64 b), ps)) : v = .pointer (some ⟨b, 0, none⟩) := by
  unfold ptrE at h
  split at h <;> simp at h
  obtain ⟨h, _⟩ := h
  rw [show _ = b from Int.ofNat.inj h]

theorem zero121 (w : World) : (zeroValue 121).run Yba.prog w = .ok (.pointer none) w := by kernel_rfl
theorem zero131 (w : World) : (zeroValue 131).run Yba.prog w = .ok (.pointer none) w := by kernel_rfl
theorem zero4 (w : World) : (zeroValue 4).run Yba.prog w = .ok (.bool false) w := by kernel_rfl

end Go.Proofs.Ybulkaixg.Mp
