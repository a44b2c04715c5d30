/-
  sort.Sort's family at (*byKey), over an abstract state: what 'the array is d' means is a letter S; what Less and Swap do to it is asked of the caller.
  insertionSort (73), reverseRange (77), siftDown (81), heapSort (74).
-/
import Derived.Test.YbulkaixgRows
import Derived.Sort.WalkA6
import Derived.Sort.WalkB3
import Derived.Sort.WalkC4
import Derived.Sort.Walk13
import Derived.Sort.AssemblyPlain
import Derived.Deep.LoopGhost
import Derived.Below
namespace Go.Proofs.Ybulkaixg.Srt
open Go.RowKit Go.Sort
set_option linter.unusedVariables false
set_option linter.unusedSimpArgs false
set_option maxRecDepth 100000
variable {α : Type} [Inhabited α]

/-- Blocks that were laid since 'base' are not touched; none goes. -/
structure Up (base : Nat) (w w' : World) : Prop where
  size : w.heap.size ≤ w'.heap.size
  block : ∀ b, base ≤ b → b < w.heap.size → w'.heap[b]? = w.heap[b]?

/-- What is asked of the value that is sorted. -/
structure Env (N base : Nat) (rv : Value) (lt : α → α → Bool) (S : Array α → World → Prop) : Prop where
  swo : SWO lt
  small : N < 1099511627776
  mN : ∀ w, (method 492 204 rv "Len").run Yba.prog w = .ok (129, rv) w
  mL : ∀ w, (method 492 204 rv "Less").run Yba.prog w = .ok (130, rv) w
  mS : ∀ w, (method 492 204 rv "Swap").run Yba.prog w = .ok (131, rv) w
  size : ∀ d w, S d w → d.size = N
  top : ∀ d w, S d w → base ≤ w.heap.size
  keep : ∀ d w w', S d w → w'.os = w.os → w'.tape = w.tape → w'.output = w.output → w.heap.size ≤ w'.heap.size → (∀ b, b < base → w'.heap[b]? = w.heap[b]?) → S d w'
  len : ∀ d w, S d w → Calls Yba.prog 129 #[rv] w fun e w' => e = .returned (.int .i64 N) ∧ S d w'
  less : ∀ d w, S d w → ∀ i j : Nat, i < N → j < N → Calls Yba.prog 130 #[rv, .int .i64 i, .int .i64 j] w fun e w' => e = .returned (.bool (lt d[i]! d[j]!)) ∧ S d w' ∧ Up base w w'
  swap : ∀ d w, S d w → ∀ i j : Nat, i < N → j < N → Calls Yba.prog 131 #[rv, .int .i64 i, .int .i64 j] w fun e w' => e = .returned (.tuple #[]) ∧ S (swp d i j) w' ∧ Up base w w'

variable {N base : Nat} {rv : Value} {lt : α → α → Bool} {S : Array α → World → Prop}

theorem Env.lessI (E : Env N base rv lt S) {d : Array α} {w : World} (h : S d w) {x y : Int} {i j : Nat} (hx : x = i) (hy : y = j) (hi : i < N) (hj : j < N) :
    Calls Yba.prog 130 #[rv, .int .i64 x, .int .i64 y] w fun e w' => e = .returned (.bool (lt d[i]! d[j]!)) ∧ Hid (S d w') := by
  subst hx; subst hy
  exact (E.less d w h i j hi hj).mono fun _ _ h => ⟨h.1, h.2.1⟩
theorem Env.swapI (E : Env N base rv lt S) {d : Array α} {w : World} (h : S d w) {x y : Int} {i j : Nat} (hx : x = i) (hy : y = j) (hi : i < N) (hj : j < N) :
    Calls Yba.prog 131 #[rv, .int .i64 x, .int .i64 y] w fun e w' => e = .returned (.tuple #[]) ∧ Hid (S (swp d i j) w') := by
  subst hx; subst hy
  exact (E.swap d w h i j hi hj).mono fun _ _ h => ⟨h.1, h.2.1⟩

set_option maxHeartbeats 2000000 in
theorem ins_walk (E : Env N base rv lt S) (a b : Nat) (d : Array α) (w : World) (hS : S d w) (hab : a ≤ b) (hb : b ≤ N) :
    Calls Yba.prog 73 #[.iface 204 rv, .int .i64 a, .int .i64 b] w fun e w' => e = .returned (.tuple #[]) ∧ S (insertionSort lt d a b) w' := by
  have mL := E.mL; have mS := E.mS; have hN := E.small
  go_enter Yba.func73, Yba.ntmps73
  go_wp2
  go_loopw [6] (fun vi wr => ∃ (i : Nat) (dk : Array α), vi = .int .i64 i ∧ a < i ∧ i ≤ b + 1 ∧ Hid (S dk wr) ∧ Hid (insOuter lt a b i dk = insOuter lt a b (a + 1) d)) (fun vi _ => b + 1 - (intOf vi).toNat)
  case atStart => exact ⟨a + 1, d, by go_num, by omega, by omega, hS, rfl⟩
  case round =>
    obtain ⟨i, dk, rfl, hai, hib, hSk, HO⟩ := hrel
    go_wp2
    · have hlt : i < b := by assumption
      go_loopw [7] (fun vj wr2 => ∃ (j : Nat) (dj : Array α), vj = .int .i64 j ∧ a ≤ j ∧ j ≤ i ∧ Hid (S dj wr2) ∧ Hid (insInner lt a j dj = insInner lt a i dk)) (fun vj _ => (intOf vj).toNat)
      case atStart => exact ⟨i, dk, rfl, by omega, Nat.le_refl _, hSk, rfl⟩
      case round =>
        clear hSk
        obtain ⟨j, dj, rfl, haj, hji, hSj, HI⟩ := hrel
        by_cases hja : a < j
        · have hl := E.lessI hSj.out (x := j) (y := (j : Int) - 1) (i := j) (j := j - 1) rfl (by omega) (by omega) (by omega)
          cases hlv : lt dj[j]! dj[j - 1]! with
          | true =>
            rw [hlv] at hl
            clear hSj
            go_wp2_with (first
              | (go_at_call 130; refine hl.mono ?_; rintro e w' ⟨rfl, hS2⟩)
              | (go_at_call 131; refine (E.swapI hS2.out (x := j) (y := (j : Int) - 1) (i := j) (j := j - 1) rfl (by omega) (by omega) (by omega)).mono ?_; rintro e w' ⟨rfl, hS3⟩))
            go_roundw
            case rel =>
              (repeat apply Exists.intro)
              exact ⟨⟨j - 1, swp dj j (j - 1), by congr 1 <;> omega, by omega, by omega, hS3, by rw [← HI.out, insInner_go lt a j dj hja hlv]; exact rfl⟩, by rw [decide_eq_true hlt, show ((j - 1 : Nat) : Int) = (j : Int) - 1 by omega]⟩
            case measure => simp [intOf]; omega
          | false =>
            rw [hlv] at hl
            clear hSj
            go_wp2_with (go_at_call 130; refine hl.mono ?_; rintro e w' ⟨rfl, hS2⟩)
            go_roundw
            case rel => exact ⟨i + 1, dj, by go_num, by omega, by omega, hS2, by rw [← HO.out, insOuter_go _ _ _ _ _ hlt, ← HI.out, insInner_stop _ _ _ _ (Or.inr hlv)]; exact rfl⟩
            case measure => simp [intOf]; omega
        · go_wp2
          go_roundw
          case rel => exact ⟨i + 1, dj, by go_num, by omega, by omega, hSj, by rw [← HO.out, insOuter_go _ _ _ _ _ hlt, ← HI.out, insInner_stop _ _ _ _ (Or.inl (by omega))]; exact rfl⟩
          case measure => simp [intOf]; omega
    · have hge : ¬ i < b := by assumption
      go_end0
      exact ⟨rfl, by unfold insertionSort; rw [← HO.out, insOuter_stop _ _ _ _ _ hge]; exact hSk.out⟩

theorem permIn_swp {d dk : Array α} {a b i j : Nat} (h : PermIn a b d dk) (ha : a ≤ i) (hi : i < b) (hj : a ≤ j) (hjb : j < b) (hb : b ≤ dk.size) : PermIn a b d (swp dk i j) :=
  permIn_trans _ _ _ _ _ h (swp_permIn dk a b i j ha hi hj hjb hb)

set_option maxHeartbeats 1600000 in
theorem rev_walk (E : Env N base rv lt S) (a b : Nat) (d : Array α) (w : World) (hS : S d w) (hab : a ≤ b) (hb : b ≤ N) :
    Calls Yba.prog 77 #[.iface 204 rv, .int .i64 a, .int .i64 b] w fun e w' => e = .returned (.tuple #[]) ∧ ∃ d', PermIn a b d d' ∧ S d' w' := by
  have mS := E.mS; have hN := E.small
  go_enter Yba.func77, Yba.ntmps77
  go_wp2
  go_loopw [6, 7] (fun vi vj wr => ∃ (i : Nat) (j : Int) (dk : Array α), vi = .int .i64 i ∧ vj = .int .i64 j ∧ a ≤ i ∧ i ≤ b + 1 ∧ j < b ∧ (-1 : Int) ≤ j ∧ Hid (S dk wr) ∧ Hid (PermIn a b d dk)) (fun vi _ _ => b + 1 - (intOf vi).toNat)
  case atStart => exact ⟨a, (b : Int) - 1, d, rfl, rfl, by omega, by omega, by omega, by omega, hS, permIn_refl d a b⟩
  case round =>
    obtain ⟨i, j, dk, rfl, rfl, hai, hib, hjb, hj1, hSk, HP⟩ := hrel
    have hsz := E.size _ _ hSk.out
    by_cases hlt : (i : Int) < j
    · have hs := E.swapI hSk.out (x := i) (y := j) (i := i) (j := j.toNat) rfl (by omega) (by omega) (by omega)
      clear hSk
      go_wp2_with (go_at_call 131; refine hs.mono ?_; rintro e w' ⟨rfl, hS2⟩)
      go_roundw
      case rel => exact ⟨i + 1, j - 1, swp dk i j.toNat, by go_num, rfl, by omega, by omega, by omega, by omega, hS2, permIn_swp HP.out hai (by omega) (by omega) (by omega) (by omega)⟩
      case measure => simp [intOf]; omega
    · go_wp2
      go_end0
      exact ⟨rfl, dk, HP.out, hSk.out⟩

end Go.Proofs.Ybulkaixg.Srt
