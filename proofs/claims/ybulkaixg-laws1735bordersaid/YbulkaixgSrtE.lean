/-
  partialInsertionSort (78).
-/
import Derived.Test.YbulkaixgSrtB
import Derived.Deep.DeepCutAuto
import Derived.Deep.CutBlock
namespace Go.Proofs.Ybulkaixg.Srt
open Go.RowKit Go.Sort
set_option linter.unusedVariables false
set_option linter.unusedSimpArgs false
set_option maxRecDepth 100000
variable {α : Type} [Inhabited α]
variable {N base : Nat} {rv : Value} {lt : α → α → Bool} {S : Array α → World → Prop}

set_option maxHeartbeats 8000000 in
theorem pins_walk (E : Env N base rv lt S) (a b : Nat) (d : Array α) (w : World) (hS : S d w) (hab : a < b) (hb : b ≤ N) :
    Calls Yba.prog 78 #[.iface 204 rv, .int .i64 a, .int .i64 b] w fun e w' => e = .returned (.bool (partialInsertionSort lt d a b).2) ∧ S (partialInsertionSort lt d a b).1 w' := by
  have mL := E.mL; have mS := E.mS; have hN := E.small
  go_enter Yba.func78, Yba.ntmps78
  go_wp2
  go_loopw [7, 8] (fun vi vs wr => ∃ (i s : Nat) (dk : Array α), vi = .int .i64 i ∧ vs = .int .i64 s ∧ a < i ∧ i ≤ b ∧ s ≤ 5 ∧ Hid (S dk wr) ∧ Hid (partialIns lt a b (5 - s) i dk = partialIns lt a b 5 (a + 1) d)) (fun _ vs _ => 6 - (intOf vs).toNat)
  case atStart => exact ⟨a + 1, 0, d, by go_num, by go_num, by omega, by omega, by omega, hS, rfl⟩
  case round =>
    obtain ⟨i, s, dk, rfl, rfl, hai, hib, hs5, hSk, HE⟩ := hrel
    clear hS
    by_cases hs : s < 5
    · have hsz : (s : Int) < 5 := by omega
      go_upto_block 2 with fail
      go_cut [7] from 13 to 84 (fun s7 wx => ∃ i2 : Nat, s7 = .int .i64 i2 ∧ i ≤ i2 ∧ i2 ≤ b ∧ Hid (scanSorted lt dk b i = i2) ∧ Hid (S dk wx))
      case first =>
        go_wp2_with fail
        go_loopw [7] (fun vi w1 => ∃ i' : Nat, vi = .int .i64 i' ∧ i ≤ i' ∧ i' ≤ b ∧ Hid (scanSorted lt dk b i' = scanSorted lt dk b i) ∧ Hid (S dk w1)) (fun vi _ => b + 1 - (intOf vi).toNat)
        case atStart => exact ⟨i, rfl, Nat.le_refl _, hib, rfl, hSk⟩
        case round =>
          clear hSk
          obtain ⟨i', rfl, hii, hib', hsc, hSk⟩ := hrel
          by_cases hlt : i' < b
          · cases hv : lt dk[i']! dk[i' - 1]! with
            | false =>
              go_wp2_with (go_at_call 130; refine (E.lessV hSk.out hv (by omega) (by omega) (by omega) (by omega)).mono ?_; rintro e w2 ⟨rfl, hS2⟩)
              go_roundw
              case rel => exact ⟨i' + 1, by go_num, by omega, by omega, (scanSorted_go lt dk b i' hlt hv).symm.trans hsc.out, hS2⟩
              case measure => simp [intOf]; omega
            | true =>
              go_wp2_with (go_at_call 130; refine (E.lessV hSk.out hv (by omega) (by omega) (by omega) (by omega)).mono ?_; rintro e w2 ⟨rfl, hS2⟩)
              go_meet
              exact ⟨i', rfl, hii, hib', hsc.out.symm.trans (scanSorted_stop lt dk b i' (Or.inr hv)), hS2⟩
          · go_wp2
            go_meet
            exact ⟨i', rfl, hii, hib', hsc.out.symm.trans (scanSorted_stop lt dk b i' (Or.inl hlt)), hSk⟩
      case rest =>
        clear hSk
        obtain ⟨i2, rfl, hii, hib2, hi2, hSk⟩ := hcut
        by_cases heq : i2 = b
        · have heqz : (i2 : Int) = b := by omega
          go_wp2
          go_ret
          have e : partialInsertionSort lt d a b = (dk, true) := HE.out.symm.trans (pi_true lt a b s i dk hs (hi2.out.trans heq))
          rw [e]
          exact ⟨rfl, hSk.out⟩
        · have heqz : ¬ ((i2 : Int) = b) := by omega
          by_cases h50 : b - a < 50
          · have h50z : (b : Int) - a < 50 := by omega
            go_wp2
            go_ret
            have e : partialInsertionSort lt d a b = (dk, false) := HE.out.symm.trans (pi_short lt a b s i dk hs (fun h => heq (hi2.out.symm.trans h)) h50)
            rw [e]
            exact ⟨rfl, hSk.out⟩
          · have h50z : ¬ ((b : Int) - a < 50) := by omega
            have e := pi_go lt a b s i i2 dk hs hi2.out heq h50
            have HG : Hid (partialIns lt a b (5 - s) i dk = partialIns lt a b (5 - (s + 1)) i2 (fixUp lt b i2 (fixDown lt a i2 (swp dk i2 (i2 - 1))))) := e
            clear e
            go_upto_if 45 with (go_at_call 131; refine (E.swapI hSk.out (i := i2) (j := i2 - 1) (by omega) (by omega) (by omega) (by omega)).mono ?_; rintro e w2 ⟨rfl, hS2⟩)
            clear hSk
            go_cut [9] from 13 to 84 (fun s9 wx => Hid (S (fixDown lt a i2 (swp dk i2 (i2 - 1))) wx))
            case first =>
              by_cases h2 : i2 - a ≥ 2
              · have h2z : (2 : Int) ≤ (i2 : Int) - a := by omega
                have hF : Hid (fixDown lt a i2 (swp dk i2 (i2 - 1)) = shiftDown lt (i2 - 1) (swp dk i2 (i2 - 1))) := if_pos h2
                go_wp2_with fail
                go_loopw [9] (fun vj w3 => ∃ (j : Nat) (dj : Array α), vj = .int .i64 j ∧ j < i2 ∧ Hid (S dj w3) ∧ Hid (shiftDown lt j dj = shiftDown lt (i2 - 1) (swp dk i2 (i2 - 1)))) (fun vj _ => (intOf vj).toNat)
                case atStart => exact ⟨i2 - 1, _, by go_num, by omega, hS2, rfl⟩
                case round =>
                  clear hS2
                  obtain ⟨j, dj, rfl, hj, hSj, HD⟩ := hrel
                  by_cases h1 : 1 ≤ j
                  · have h1z : (1 : Int) ≤ j := by omega
                    cases hv : lt dj[j]! dj[j - 1]! with
                    | true =>
                      go_wp2_with (first
                        | (go_at_call 130; refine (E.lessV hSj.out hv (by omega) (by omega) (by omega) (by omega)).mono ?_; rintro e w3 ⟨rfl, hS3⟩)
                        | (go_at_call 131; refine (E.swapI hS3.out (i := j) (j := j - 1) (by omega) (by omega) (by omega) (by omega)).mono ?_; rintro e w4 ⟨rfl, hS4⟩))
                      go_roundw
                      case rel =>
                        (repeat apply Exists.intro)
                        refine ⟨?ra, ?rb⟩
                        case rb => rw [decide_eq_true h2z]
                        case ra =>
                          exact ⟨j - 1, _, by go_num, by omega, hS4, (shiftDown_go lt j dj h1 hv).symm.trans HD.out⟩
                      case measure => simp [intOf]; omega
                    | false =>
                      go_wp2_with (go_at_call 130; refine (E.lessV hSj.out hv (by omega) (by omega) (by omega) (by omega)).mono ?_; rintro e w3 ⟨rfl, hS3⟩)
                      go_meet
                      exact (by rw [hF.out, ← HD.out, shiftDown_stop lt j dj (Or.inr hv)]; exact hS3)
                  · have h1z : ¬ ((1 : Int) ≤ j) := by omega
                    go_wp2
                    go_meet
                    exact (by rw [hF.out, ← HD.out, shiftDown_stop lt j dj (Or.inl (by omega))]; exact hSj)
              · have h2z : ¬ ((2 : Int) ≤ (i2 : Int) - a) := by omega
                go_wp2
                go_meet
                exact (by rw [show fixDown lt a i2 (swp dk i2 (i2 - 1)) = swp dk i2 (i2 - 1) from if_neg h2]; exact hS2)
            case rest =>
              clear hS2
              have hS3 := hcut
              clear hcut
              go_upto_if 66 with fail
              have HG2 := HG
              generalize fixDown lt a i2 (swp dk i2 (i2 - 1)) = df at *
              by_cases h2 : b - i2 ≥ 2
              · have h2z : (2 : Int) ≤ (b : Int) - i2 := by omega
                have hF : Hid (fixUp lt b i2 df = shiftUp lt b (i2 + 1) df) := if_pos h2
                go_wp2_with fail
                go_loopw [10] (fun vj w3 => ∃ (j : Nat) (dj : Array α), vj = .int .i64 j ∧ i2 < j ∧ j ≤ b ∧ Hid (S dj w3) ∧ Hid (shiftUp lt b j dj = shiftUp lt b (i2 + 1) df)) (fun vj _ => b + 1 - (intOf vj).toNat)
                case atStart => exact ⟨i2 + 1, _, by go_num, by omega, by omega, hS3, rfl⟩
                case round =>
                  clear hS3
                  obtain ⟨j, dj, rfl, hj, hjb, hSj, HD⟩ := hrel
                  by_cases h1 : j < b
                  · have h1z : (j : Int) < b := by omega
                    cases hv : lt dj[j]! dj[j - 1]! with
                    | true =>
                      go_wp2_with (first
                        | (go_at_call 130; refine (E.lessV hSj.out hv (by omega) (by omega) (by omega) (by omega)).mono ?_; rintro e w3 ⟨rfl, hS3⟩)
                        | (go_at_call 131; refine (E.swapI hS3.out (i := j) (j := j - 1) (by omega) (by omega) (by omega) (by omega)).mono ?_; rintro e w4 ⟨rfl, hS4⟩))
                      go_roundw
                      case rel =>
                        (repeat apply Exists.intro)
                        refine ⟨?ra, ?rb⟩
                        case rb => rw [decide_eq_true h2z]
                        case ra =>
                          exact ⟨j + 1, _, by go_num, by omega, by omega, hS4, (shiftUp_go lt b j dj h1 hv).symm.trans HD.out⟩
                      case measure => simp [intOf]; omega
                    | false =>
                      go_wp2_with (go_at_call 130; refine (E.lessV hSj.out hv (by omega) (by omega) (by omega) (by omega)).mono ?_; rintro e w3 ⟨rfl, hS3⟩)
                      go_roundw
                      case rel => exact ⟨i2, s + 1, _, rfl, by go_num, by omega, by omega, by omega, hS3, by rw [← HE.out, HG.out, hF.out, ← HD.out, shiftUp_stop lt b j dj (Or.inr hv)]; exact rfl⟩
                      case measure => simp [intOf]; omega
                  · have h1z : ¬ ((j : Int) < b) := by omega
                    go_wp2
                    go_roundw
                    case rel => exact ⟨i2, s + 1, _, rfl, by go_num, by omega, by omega, by omega, hSj, by rw [← HE.out, HG.out, hF.out, ← HD.out, shiftUp_stop lt b j dj (Or.inl h1)]; exact rfl⟩
                    case measure => simp [intOf]; omega
              · have h2z : ¬ ((2 : Int) ≤ (b : Int) - i2) := by omega
                go_wp2
                go_roundw
                case rel => exact ⟨i2, s + 1, _, rfl, by go_num, by omega, by omega, by omega, hS3, by rw [← HE.out, HG.out, show fixUp lt b i2 df = df from if_neg h2]; exact rfl⟩
                case measure => simp [intOf]; omega
    · have hsz : ¬ ((s : Int) < 5) := by omega
      go_wp2
      go_ret
      have h5 : s = 5 := by omega
      subst h5
      have e : partialInsertionSort lt d a b = (dk, false) := HE.out.symm.trans (pi_end lt a b i dk)
      rw [e]
      exact ⟨rfl, hSk.out⟩

end Go.Proofs.Ybulkaixg.Srt
