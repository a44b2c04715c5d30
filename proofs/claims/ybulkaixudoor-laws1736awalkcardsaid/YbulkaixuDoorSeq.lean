/-
  heapSet.all (11), its closure (16).
-/
import Derived.RangeFuncNested
import Derived.RangeFuncBound
import Derived.RangeFuncCalls
import Derived.RangeFuncLeaves
import Derived.RangeFuncFrom
import Derived.Shelf.Abstract
import Derived.WalkKit
import Derived.OwnWalkIn
import Derived.TacticsInMore
import Derived.LoopNIn
import Derived.LoopIn
import Derived.Test.YbulkaixuDoorCount
namespace Go.Proofs.YbulkaixuDoor.Walk
open Go.RowKit Go.Shelf
set_option linter.unusedVariables false
set_option linter.unusedSimpArgs false
set_option maxRecDepth 100000
attribute [local go_sem] Oper.semAt_some

/-- A heap number. -/
abbrev U16 : Type := { h : Nat // h ≤ 65535 }

/-- The words of the set, in a block below n₀. -/
def WordB (w : World) (n₀ : Nat) (a0 : Option Addr) (n : Nat) (f : Nat → Nat) : Prop := ∀ i, i < n → f i < 18446744073709551616 ∧ ∃ x, a0 = some x ∧ x.block < n₀ ∧ w.cell? (x.add i) = some (.int .u64 (f i : Nat))

theorem add_block (x : Addr) (i : Nat) : (x.add i).block = x.block := by unfold Addr.add; split <;> rfl

theorem WordB.below {w w' : World} {n₀ : Nat} {a0 : Option Addr} {n : Nat} {f : Nat → Nat} (h : WordB w n₀ a0 n f) (hb : Below n₀ w w') : WordB w' n₀ a0 n f := by
  intro i hi
  obtain ⟨h1, x, e, hx, hc⟩ := h i hi
  exact ⟨h1, x, e, hx, (hb.cell (p := x.add i) (by rw [add_block]; exact hx)).trans hc⟩

theorem all_any (b0 : Option Addr) (m cb : Nat) (n : Nat) (w : World) :
    CallsIn Fence.wide n Ybad.prog 11 #[.slice b0 m cb] w fun e w' => e = .returned (.func (.func 16) #[] #[.pointer (some ⟨w.heap.size, 0, none⟩)]) ∧ w' = w.alloc (.cells #[.slice b0 m cb] 47) := by
  refine callsIn_wide.2 ?_
  go_enter Ybad.func11, Ybad.ntmps11
  go_wp2
  go_ret
  exact ⟨rfl, rfl⟩

theorem wrap16 (k r : Nat) : ∃ q : Nat, q ≤ 65535 ∧ IntKind.u16.wrap ((k : Int) * 64 + (r : Int)) = (q : Nat) := by
  refine ⟨(k * 64 + r) % 65536, by omega, ?_⟩
  simp only [IntKind.wrap, IntKind.bits, IntKind.signed, Bool.false_and]
  simp

theorem and_pred (v : Nat) (h0 : 0 < v) (hv : v < 18446744073709551616) : ∃ v2 : Nat, v2 < v ∧ bits .and .u64 (v : Int) ((v : Int) - 1) = (v2 : Nat) := by
  refine ⟨v &&& (v - 1), ?_, ?_⟩
  · have := Nat.and_le_right (n := v) (m := v - 1)
    omega
  · have hd : bits .and .u64 (v : Int) ((v : Int) - 1) = IntKind.u64.wrap ((BitVec.ofInt 64 (v : Int) &&& BitVec.ofInt 64 ((v : Int) - 1)).toNat : Int) := rfl
    rw [hd, BitVec.toNat_and, BitVec.toNat_ofInt, BitVec.toNat_ofInt]
    have e1 : ((v : Int) % ((2 ^ 64 : Nat) : Int)).toNat = v := by omega
    have e2 : (((v : Int) - 1) % ((2 ^ 64 : Nat) : Int)).toNat = v - 1 := by omega
    rw [e1, e2]
    have hle := Nat.and_le_right (n := v) (m := v - 1)
    simp only [IntKind.wrap, IntKind.bits, IntKind.signed, Bool.false_and]
    simp
    omega

theorem Tab.keepB {w w' : World} {n₀ : Nat} (h : Tab w) (hb : Below n₀ w w') (h0 : 0 < n₀) : Tab w' := by
  intro j hj
  obtain ⟨v, h1, h2⟩ := h j hj
  exact ⟨v, h1, (hb.cell (p := ⟨0, j, none⟩) h0).trans h2⟩

set_option maxHeartbeats 2000000 in
theorem all1_in (n : Nat) (hn : 2 ≤ n) (l Bs n₀ : Nat) (h00 : 0 < n₀) (b0 : Option Addr) (m cb : Nat) (f : Nat → Nat) (hm : m ≤ 1024) (J Jx : List U16 → World → Prop)
    (hY : ∀ pre (x : U16) W, J pre W → pre.length < 1024 * 18446744073709551616 → YieldAt Fence.wide (n - 1) Ybad.prog l #[.int .u16 (x.1 : Nat)] W fun e W' =>
      (e = .returned (.bool true) ∧ J (pre ++ [x]) W' ∧ Below n₀ W W') ∨ (e = .returned (.bool false) ∧ Jx (pre ++ [x]) W'))
    (W : World) (hBs : W.cell? ⟨Bs, 0, none⟩ = some (.slice b0 m cb)) (hW : WordB W n₀ b0 m f) (hT : Tab W) (h0 : J [] W) :
    CallsIn Fence.wide n Ybad.prog 16 #[.func (.yield l) #[] #[], .pointer (some ⟨Bs, 0, none⟩)] W fun e W' => (∃ v, e = .returned v) ∧ ((∃ ys, True ∧ J ys W') ∨ (∃ pre, True ∧ Jx pre W')) := by
  refine callsIn_of_wp Ybad.func16 rfl trivial ?_ rfl
  simp only [Ybad.ntmps16, List.size_toArray, List.length_cons, List.length_nil, Nat.reduceAdd, Nat.reduceSub, Array.replicate_succ, Array.replicate_zero, List.push_toArray, List.append_toArray, List.nil_append, List.cons_append]
  gi_wp2
  gi_loopw [3, 4, 5, 8] (fun a b c i wr => ∃ (k : Nat) (pre : List U16), k ≤ m ∧ i = .int .i64 (k : Nat) ∧ J pre wr ∧ Below n₀ W wr ∧ pre.length ≤ k * 18446744073709551616) (fun a b c i _ => m - (intOf i).toNat)
  case atStart => exact ⟨0, [], Nat.zero_le _, rfl, h0, Below.refl _ _, by simp⟩
  case round =>
    obtain ⟨k, pre, hk, rfl, hJ, hB, hlen⟩ := hrel
    by_cases hlt : k < m
    · have hlt' : (k : Int) < (m : Int) := by omega
      obtain ⟨hf, x, hx, hxb, hc⟩ := (hW.below hB) k hlt
      subst hx
      gi_wp2
      gi_loopw [4, 5] (fun v h wr2 => ∃ (v' : Nat) (pre : List U16), v = .int .u64 (v' : Nat) ∧ v' < 18446744073709551616 ∧ J pre wr2 ∧ Below n₀ W wr2 ∧ pre.length + v' ≤ k * 18446744073709551616 + f k) (fun v h _ => (intOf v).toNat)
      case atStart => exact ⟨f k, pre, rfl, hf, hJ, hB, by omega⟩
      case round =>
        obtain ⟨v, pre2, rfl, hv, hJ2, hB2, hlen2⟩ := hrel
        by_cases hv0 : v = 0
        · subst hv0
          gi_wp2
          go_roundw
          case rel => exact ⟨k + 1, pre2, by omega, by simp, hJ2, hB2, by omega⟩
          case measure => simp [intOf]; omega
        · have hvi : ¬ (v : Int) = 0 := by omega
          have hT2 := hT.keepB hB2 h00
          gi_wp2
          refine ⟨trivial, fun h => (by simp [Fence.wide] at h), (callsIn_wide.2 (tz_any (v : Int) _ hvi hT2)).mono ?_⟩
          rintro e w' ⟨r, hr, rfl, hw'⟩
          subst hw'
          have hr' : (r : Int) ≤ 255 := by omega
          have hk' : (k : Int) ≤ 1024 := by omega
          obtain ⟨q, hq, hwr⟩ := wrap16 k r
          obtain ⟨v2, hv2, hand⟩ := and_pred v (by omega) hv
          have hv64 : (v : Int) < 18446744073709551616 := by omega
          have hv1 : (1 : Int) ≤ (v : Int) := by omega
          obtain ⟨fn, tmps, assign, body, hy, hR⟩ := hY pre2 ⟨q, hq⟩ w' hJ2 (by omega)
          dsimp only at hy
          gi_wp2
          refine ⟨fun h => (by simp [Fence.wide] at h), hR.mono ?_⟩
          rintro e W3 (⟨rfl, hJ3, hk3⟩ | ⟨rfl, hJx3⟩)
          · gi_wp2
            go_roundw
            case rel => exact ⟨v2, pre2 ++ [⟨q, hq⟩], rfl, by omega, hJ3, hB2.trans hk3, by rw [List.length_append, List.length_singleton]; omega⟩
            case measure => simp [intOf]; omega
          · gi_wp2
            refine bodyPost_ret (results_none rfl _ _ _) rfl ?_
            exact ⟨⟨_, rfl⟩, .inr ⟨_, trivial, hJx3⟩⟩
    · have hlt' : ¬ (k : Int) < (m : Int) := by omega
      gi_wp2
      go_end0
      exact ⟨⟨_, rfl⟩, .inl ⟨_, hJ⟩⟩

/-- all(set) hands back a sequence that stops: some numbers come, none need be known. -/
theorem all_stops (n : Nat) (hn : 2 ≤ n) (Bs n₀ : Nat) (h00 : 0 < n₀) (b0 : Option Addr) (m cb : Nat) (f : Nat → Nat) (hm : m ≤ 1024) (w : World) (hBs : Bs < w.heap.size) (hn₀ : n₀ ≤ w.heap.size) (hc : w.cell? ⟨Bs, 0, none⟩ = some (.slice b0 m cb)) (hW : WordB w n₀ b0 m f) (hT : Tab w) :
    SeqStopsK Fence.wide n Ybad.prog 16 #[.pointer (some ⟨Bs, 0, none⟩)] (fun x : U16 => #[.int .u16 (x.1 : Nat)]) (Below n₀) (fun _ => True) (fun _ => True) (1024 * 18446744073709551616) w := fun l J Jx W hWW _ _ hY h0 =>
  all1_in n hn l Bs n₀ h00 b0 m cb f hm J Jx hY W ((hWW.cell (p := ⟨Bs, 0, none⟩) hBs).trans hc) (hW.below (hWW.mono hn₀)) (hT.keep hWW) h0

end Go.Proofs.YbulkaixuDoor.Walk
