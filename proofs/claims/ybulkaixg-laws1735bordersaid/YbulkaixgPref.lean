/-
  commonPrefix (57).
-/
import Derived.Test.YbulkaixgRows
import Derived.Test.YbulkaixgKp
import Derived.Test.YbulkaixgOrdP
import Derived.Lib.Strings
import Derived.BigRegion
import Derived.BigQuiet
import Derived.Deep.QuietTactic
import Derived.Deep.DeepCutAuto
import Derived.Deep.CutBlock
import Derived.Deep.LoopGhost
namespace Go.Proofs.Ybulkaixg.Ord
open Go.RowKit
set_option linter.unusedVariables false
set_option linter.unusedSimpArgs false
set_option maxRecDepth 100000

/-- How many bytes two strings share from their first on. -/
def cpre : List UInt8 → List UInt8 → Nat
  | x :: l, y :: m => if x = y then cpre l m + 1 else 0
  | _, _ => 0

theorem cpre_le : ∀ a b : List UInt8, cpre a b ≤ a.length ∧ cpre a b ≤ b.length ∧ a.take (cpre a b) = b.take (cpre a b)
  | [], _ => by simp [cpre]
  | _ :: _, [] => by simp [cpre]
  | x :: l, y :: m => by
    have ih := cpre_le l m
    unfold cpre
    by_cases h : x = y
    · subst h; simp [ih]
    · simp [h]
theorem cpre_stop : ∀ a b : List UInt8, cpre a b < a.length → cpre a b < b.length → a[cpre a b]? ≠ b[cpre a b]?
  | [], _ => by simp [cpre]
  | _ :: _, [] => by simp [cpre]
  | x :: l, y :: m => by
    have ih := cpre_stop l m
    unfold cpre
    by_cases h : x = y
    · subst h; simpa using ih
    · simp [h]
theorem cpre_go (a b : List UInt8) (n : Nat) (h : n < cpre a b) : a[n]? = b[n]? := by
  have ⟨_, _, e⟩ := cpre_le a b
  have h1 : (a.take (cpre a b))[n]? = (b.take (cpre a b))[n]? := by rw [e]
  rwa [List.getElem?_take_of_lt h, List.getElem?_take_of_lt h] at h1

theorem byte_get (a : ByteArray) (n : Nat) (h : n < a.size) : a.data.toList[n]? = some a[n] := by
  rw [List.getElem?_eq_getElem (by simpa using h)]
  rfl

set_option maxHeartbeats 2000000 in
theorem pre_walk (a b : ByteArray) (ha : a.size ≤ maxLen) (hb : b.size ≤ maxLen) (w : World) :
    Calls Yba.prog 57 #[.string a, .string b] w fun e w' => e = .returned (.int .i64 (cpre a.data.toList b.data.toList : Nat)) ∧ ∃ q, w' = w.drewN q := by
  have hml : maxLen ≤ 9223372036854775807 := by decide
  obtain ⟨l1, l2, _⟩ := cpre_le a.data.toList b.data.toList
  have s1 : a.data.toList.length = a.size := by simp
  have s2 : b.data.toList.length = b.size := by simp
  rw [s1] at l1
  rw [s2] at l2
  obtain ⟨C, hC⟩ : ∃ C, C = cpre a.data.toList b.data.toList := ⟨_, rfl⟩
  rw [← hC] at l1 l2 ⊢
  have HC : Hid (C = cpre a.data.toList b.data.toList) := hC
  clear hC
  go_enter Yba.func57, Yba.ntmps57
  go_wp2
  go_loopw [5] (fun v wr => ∃ (n q : Nat), v = .int .i64 n ∧ n ≤ C ∧ wr = w.drewN q) (fun v _ => C + 1 - (intOf v).toNat)
  case atStart => exact ⟨0, 0, rfl, Nat.zero_le _, rfl⟩
  case round =>
    obtain ⟨n, q, rfl, hn, rfl⟩ := hrel
    by_cases hlt : n < C
    · have g1 : (n : Int) < (a.size : Int) := by omega
      have g2 : (n : Int) < (b.size : Int) := by omega
      go_upto_region 2 with fail
      go_quiet (fail)
      go_wp2
      · go_roundw
        case rel => exact ⟨n + 1, _, by go_num, by omega, rfl⟩
        case measure => simp [intOf]; omega
      · exfalso
        rename_i hx
        have e := cpre_go a.data.toList b.data.toList n (by rw [← HC.out]; exact hlt)
        rw [byte_get a n (by omega), byte_get b n (by omega)] at e
        have e2 := Option.some.inj e
        rw [e2] at hx
        simp at hx
    · by_cases ha : n < a.size
      · have g1 : (n : Int) < (a.size : Int) := by omega
        by_cases hb : n < b.size
        · have g2 : (n : Int) < (b.size : Int) := by omega
          go_upto_region 2 with fail
          have hs : a.data.toList[n]? ≠ b.data.toList[n]? := by
            have e : n = cpre a.data.toList b.data.toList := by rw [← HC.out]; omega
            have hz := cpre_stop a.data.toList b.data.toList (by rw [← e, s1]; exact ha) (by rw [← e, s2]; exact hb)
            rwa [← e] at hz
          have HS : Hid (a.data.toList[n]? ≠ b.data.toList[n]?) := hs
          clear hs
          go_quiet (fail)
          go_wp2
          · exfalso
            rename_i hx
            apply HS.out
            rw [byte_get a n ha, byte_get b n hb]
            have hx2 : ((a[n].toNat : Nat) : Int) = ((b[n].toNat : Nat) : Int) := by simpa using hx
            exact congrArg some (UInt8.toNat_inj.1 (by omega))
          · go_ret
            have e : n = C := by omega
            subst e
            exact ⟨rfl, q + nq, by simp⟩
        · have g2 : ¬ (n : Int) < (b.size : Int) := by omega
          go_upto_region 2 with fail
          go_quiet (fail)
          go_wp2
          go_ret
          have e : n = C := by omega
          subst e
          exact ⟨rfl, _, rfl⟩
      · have g1 : ¬ (n : Int) < (a.size : Int) := by omega
        go_upto_region 2 with fail
        go_quiet (fail)
        go_wp2
        go_ret
        have e : n = C := by omega
        subst e
        exact ⟨rfl, _, rfl⟩

end Go.Proofs.Ybulkaixg.Ord
