/-
  partitionEqual (79), partition (80).
-/
import Derived.Test.YbulkaixgSrtB
import Derived.Deep.DeepCutAuto
import Derived.Deep.CutBlock
namespace Go.Proofs.Ybulkaixg.Srt
open Go.RowKit Go.Sort
set_option linter.unusedVariables false
set_option linter.unusedSimpArgs false
set_option maxRecDepth 100000
variable {α : Type} [Inhabited α]
variable {N base : Nat} {rv : Value} {lt : α → α → Bool} {S : Array α → World → Prop}

set_option maxHeartbeats 4000000 in
theorem partEq_walk (E : Env N base rv lt S) (a b pivot : Nat) (d : Array α) (w : World) (hS : S d w) (hap : a ≤ pivot) (hpb : pivot < b) (hb : b ≤ N) :
    Calls Yba.prog 79 #[.iface 204 rv, .int .i64 a, .int .i64 b, .int .i64 pivot] w fun e w' => e = .returned (.int .i64 (partitionEqual lt d a b pivot).1) ∧ S (partitionEqual lt d a b pivot).2 w' := by
  have mL := E.mL; have mS := E.mS; have hN := E.small
  go_enter Yba.func79, Yba.ntmps79
  go_wp2_with (go_at_call 131; refine (E.swapI hS (i := a) (j := pivot) rfl rfl (by omega) (by omega)).mono ?_; rintro e w1 ⟨rfl, hS1⟩)
  go_loopw [9, 10] (fun vi vj wr => ∃ (i j : Nat) (dk : Array α), vi = .int .i64 i ∧ vj = .int .i64 j ∧ a < i ∧ i ≤ j + 1 ∧ j < b ∧ Hid (S dk wr) ∧ Hid (partEqLoop lt a i j dk = partEqLoop lt a (a + 1) (b - 1) (swp d a pivot)))
    (fun vi vj _ => (intOf vj).toNat + 1 - (intOf vi).toNat)
  case atStart => exact ⟨a + 1, b - 1, _, by go_num, by go_num, by omega, by omega, by omega, hS1, rfl⟩
  case round =>
    obtain ⟨i, j, dk, rfl, rfl, hai, hij, hjb, hSk, HE⟩ := hrel
    clear hS hS1
    go_upto_block 2 with fail
    go_cut [9] from 19 to 52 (fun s9 wx => ∃ i2 : Nat, s9 = .int .i64 i2 ∧ i ≤ i2 ∧ i2 ≤ j + 1 ∧ Hid (i2 = scanUp (fun x => !lt dk[a]! x) dk j i) ∧ Hid (S dk wx))
    case first =>
      go_wp2_with fail
      go_loopw [9] (fun vi w1 => ∃ i' : Nat, vi = .int .i64 i' ∧ i ≤ i' ∧ i' ≤ j + 1 ∧ Hid (scanUp (fun x => !lt dk[a]! x) dk j i' = scanUp (fun x => !lt dk[a]! x) dk j i) ∧ Hid (S dk w1)) (fun vi _ => j + 1 - (intOf vi).toNat)
      case atStart => exact ⟨i, rfl, Nat.le_refl _, hij, rfl, hSk⟩
      case round =>
        clear hSk
        obtain ⟨i', rfl, hii, hij', hsc, hSk⟩ := hrel
        by_cases hle : i' ≤ j
        · cases hv : lt dk[a]! dk[i']! with
          | false =>
            go_wp2_with (go_at_call 130; refine (E.lessV hSk.out hv (by omega) (by omega) (by omega) (by omega)).mono ?_; rintro e w2 ⟨rfl, hS2⟩)
            go_roundw
            case rel => exact ⟨i' + 1, by go_num, by omega, by omega, (scanUp_go (fun x => !lt dk[a]! x) dk j i' hle (by simp [hv])).symm.trans hsc.out, hS2⟩
            case measure => simp [intOf]; omega
          | true =>
            go_wp2_with (go_at_call 130; refine (E.lessV hSk.out hv (by omega) (by omega) (by omega) (by omega)).mono ?_; rintro e w2 ⟨rfl, hS2⟩)
            go_meet
            exact ⟨i', rfl, hii, hij', (scanUp_end (fun x => !lt dk[a]! x) dk j i' (Or.inr (by simp [hv]))).symm.trans hsc.out, hS2⟩
        · go_wp2
          go_meet
          exact ⟨i', rfl, hii, hij', (scanUp_end (fun x => !lt dk[a]! x) dk j i' (Or.inl hle)).symm.trans hsc.out, hSk⟩
    case rest =>
      clear hSk
      obtain ⟨i2, rfl, hii, hij2, hi2, hSk⟩ := hcut
      go_upto_block 4 with fail
      go_cut [10] from 19 to 52 (fun s10 wx => ∃ j2 : Nat, s10 = .int .i64 j2 ∧ j2 ≤ j ∧ i2 ≤ j2 + 1 ∧ Hid (j2 = scanDown (fun x => lt dk[a]! x) dk i2 j) ∧ Hid (S dk wx))
      case first =>
        go_wp2_with fail
        go_loopw [10] (fun vj w2 => ∃ j' : Nat, vj = .int .i64 j' ∧ j' ≤ j ∧ i2 ≤ j' + 1 ∧ Hid (scanDown (fun x => lt dk[a]! x) dk i2 j' = scanDown (fun x => lt dk[a]! x) dk i2 j) ∧ Hid (S dk w2)) (fun vj _ => (intOf vj).toNat)
        case atStart => exact ⟨j, rfl, Nat.le_refl _, hij2, rfl, hSk⟩
        case round =>
          clear hSk
          obtain ⟨j', rfl, hjj, hij', hsd, hSk⟩ := hrel
          by_cases hle : i2 ≤ j'
          · cases hv : lt dk[a]! dk[j']! with
            | true =>
              go_wp2_with (go_at_call 130; refine (E.lessV hSk.out hv (by omega) (by omega) (by omega) (by omega)).mono ?_; rintro e w2 ⟨rfl, hS2⟩)
              go_roundw
              case rel => exact ⟨j' - 1, by go_num, by omega, by omega, (scanDown_go (fun x => lt dk[a]! x) dk i2 j' hle (by omega) hv).symm.trans hsd.out, hS2⟩
              case measure => simp [intOf]; omega
            | false =>
              go_wp2_with (go_at_call 130; refine (E.lessV hSk.out hv (by omega) (by omega) (by omega) (by omega)).mono ?_; rintro e w2 ⟨rfl, hS2⟩)
              go_meet
              exact ⟨j', rfl, hjj, hij', (scanDown_end (fun x => lt dk[a]! x) dk i2 j' (Or.inr hv)).symm.trans hsd.out, hS2⟩
          · go_wp2
            go_meet
            exact ⟨j', rfl, hjj, hij', (scanDown_end (fun x => lt dk[a]! x) dk i2 j' (Or.inl hle)).symm.trans hsd.out, hSk⟩
      case rest =>
        clear hSk
        obtain ⟨j2, rfl, hjj, hij3, hj2, hSk⟩ := hcut
        by_cases hgt : j2 < i2
        · go_wp2
          go_ret
          have e := partEq_break lt a i j dk hi2.out hj2.out hgt
          have e2 : partitionEqual lt d a b pivot = (i2, dk) := by unfold partitionEqual; rw [← HE.out, e]
          rw [e2]
          exact ⟨rfl, hSk.out⟩
        · have hlt3 := scans_lt lt a i j dk (by omega) hi2.out hj2.out (by omega)
          go_wp2_with (go_at_call 131; refine (E.swapI hSk.out (i := i2) (j := j2) rfl rfl (by omega) (by omega)).mono ?_; rintro e w2 ⟨rfl, hS2⟩)
          go_roundw
          case rel => exact ⟨i2 + 1, j2 - 1, _, by go_num, by go_num, by omega, by omega, by omega, hS2, by rw [← HE.out]; exact (partEq_go lt a i j dk hi2.out hj2.out (by omega)).symm⟩
          case measure => simp [intOf]; omega

end Go.Proofs.Ybulkaixg.Srt
