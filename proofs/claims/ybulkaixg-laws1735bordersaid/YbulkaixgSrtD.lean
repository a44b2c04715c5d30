/-
  partition (80).
-/
import Derived.Test.YbulkaixgSrtC
namespace Go.Proofs.Ybulkaixg.Srt
open Go.RowKit Go.Sort
set_option linter.unusedVariables false
set_option linter.unusedSimpArgs false
set_option maxRecDepth 100000
variable {α : Type} [Inhabited α]
variable {N base : Nat} {rv : Value} {lt : α → α → Bool} {S : Array α → World → Prop}

set_option maxHeartbeats 8000000 in
theorem part_walk (E : Env N base rv lt S) (a b pivot : Nat) (d : Array α) (w : World) (hS : S d w) (hap : a ≤ pivot) (hpb : pivot < b) (hb : b ≤ N) :
    Calls Yba.prog 80 #[.iface 204 rv, .int .i64 a, .int .i64 b, .int .i64 pivot] w fun e w' => e = .returned (.tuple #[.int .i64 (partition lt d a b pivot).1, .bool (partition lt d a b pivot).2.1]) ∧ S (partition lt d a b pivot).2.2 w' := by
  have mL := E.mL; have mS := E.mS; have hN := E.small
  obtain ⟨i, hi⟩ : ∃ i : Nat, i = a + 1 := ⟨_, rfl⟩
  obtain ⟨j, hj⟩ : ∃ j : Nat, j = b - 1 := ⟨_, rfl⟩
  obtain ⟨dk, hdk⟩ : ∃ dk : Array α, dk = swp d a pivot := ⟨_, rfl⟩
  have hai : a < i := by omega
  have hij : i ≤ j + 1 := by omega
  have hjb : j < b := by omega
  have Ei : (a : Int) + 1 = (i : Int) := by omega
  have Ej : (b : Int) - 1 = (j : Int) := by omega
  have Hi : Hid (i = a + 1) := hi
  have Hj : Hid (j = b - 1) := hj
  have Hdk : Hid (dk = swp d a pivot) := hdk
  clear hi hj hdk
  have hs0 : Calls Yba.prog 131 #[rv, .int .i64 a, .int .i64 pivot] w fun e w' => e = .returned (.tuple #[]) ∧ Hid (S dk w') := by
    rw [Hdk.out]; exact E.swapI hS rfl rfl (by omega) (by omega)
  go_enter Yba.func80, Yba.ntmps80
  go_upto_block 0 with (go_at_call 131; refine hs0.mono ?_; rintro e w1 ⟨rfl, hSk⟩)
  clear hS hs0
  go_cut [10] from 20 to 30 (fun s10 wx => ∃ i2 : Nat, s10 = .int .i64 i2 ∧ i ≤ i2 ∧ i2 ≤ j + 1 ∧ Hid (i2 = scanUp (fun x => lt x dk[a]!) dk j i) ∧ Hid (S dk wx))
  case first =>
    go_wp2_with fail
    (try rw [Ei]); (try rw [Ej])
    go_loopw [10] (fun vi w1 => ∃ i' : Nat, vi = .int .i64 i' ∧ i ≤ i' ∧ i' ≤ j + 1 ∧ Hid (scanUp (fun x => lt x dk[a]!) dk j i' = scanUp (fun x => lt x dk[a]!) dk j i) ∧ Hid (S dk w1)) (fun vi _ => j + 1 - (intOf vi).toNat)
    case atStart => exact ⟨i, by go_num, Nat.le_refl _, hij, rfl, hSk⟩
    case round =>
      clear hSk
      obtain ⟨i', rfl, hii, hij', hsc, hSk⟩ := hrel
      by_cases hle : i' ≤ j
      · cases hv : lt dk[i']! dk[a]! with
        | true =>
          go_wp2_with (go_at_call 130; refine (E.lessV hSk.out hv (by omega) (by omega) (by omega) (by omega)).mono ?_; rintro e w2 ⟨rfl, hS2⟩)
          go_roundw
          case rel => exact ⟨i' + 1, by go_num, by omega, by omega, (scanUp_go (fun x => lt x dk[a]!) dk j i' hle hv).symm.trans hsc.out, hS2⟩
          case measure => simp [intOf]; omega
        | false =>
          go_wp2_with (go_at_call 130; refine (E.lessV hSk.out hv (by omega) (by omega) (by omega) (by omega)).mono ?_; rintro e w2 ⟨rfl, hS2⟩)
          go_meet
          exact ⟨i', rfl, hii, hij', (scanUp_end (fun x => lt x dk[a]!) dk j i' (Or.inr hv)).symm.trans hsc.out, hS2⟩
      · go_wp2
        go_meet
        exact ⟨i', rfl, hii, hij', (scanUp_end (fun x => lt x dk[a]!) dk j i' (Or.inl hle)).symm.trans hsc.out, hSk⟩
  case rest =>
    clear hSk
    obtain ⟨i2, rfl, hii, hij2, hi2, hSk⟩ := hcut
    go_upto_block 2 with fail
    go_cut [11] from 31 to 42 (fun s11 wx => ∃ j2 : Nat, s11 = .int .i64 j2 ∧ j2 ≤ j ∧ i2 ≤ j2 + 1 ∧ Hid (j2 = scanDown (fun x => !lt x dk[a]!) dk i2 j) ∧ Hid (S dk wx))
    case first =>
      go_wp2_with fail
      (try rw [Ej])
      go_loopw [11] (fun vj w2 => ∃ j' : Nat, vj = .int .i64 j' ∧ j' ≤ j ∧ i2 ≤ j' + 1 ∧ Hid (scanDown (fun x => !lt x dk[a]!) dk i2 j' = scanDown (fun x => !lt x dk[a]!) dk i2 j) ∧ Hid (S dk w2)) (fun vj _ => (intOf vj).toNat)
      case atStart => exact ⟨j, by go_num, Nat.le_refl _, hij2, rfl, hSk⟩
      case round =>
        clear hSk
        obtain ⟨j', rfl, hjj, hij', hsd, hSk⟩ := hrel
        by_cases hle : i2 ≤ j'
        · cases hv : lt dk[j']! dk[a]! with
          | false =>
            go_wp2_with (go_at_call 130; refine (E.lessV hSk.out hv (by omega) (by omega) (by omega) (by omega)).mono ?_; rintro e w2 ⟨rfl, hS2⟩)
            go_roundw
            case rel => exact ⟨j' - 1, by go_num, by omega, by omega, (scanDown_go (fun x => !lt x dk[a]!) dk i2 j' hle (by omega) (by simp [hv])).symm.trans hsd.out, hS2⟩
            case measure => simp [intOf]; omega
          | true =>
            go_wp2_with (go_at_call 130; refine (E.lessV hSk.out hv (by omega) (by omega) (by omega) (by omega)).mono ?_; rintro e w2 ⟨rfl, hS2⟩)
            go_meet
            exact ⟨j', rfl, hjj, hij', (scanDown_end (fun x => !lt x dk[a]!) dk i2 j' (Or.inr (by simp [hv]))).symm.trans hsd.out, hS2⟩
        · go_wp2
          go_meet
          exact ⟨j', rfl, hjj, hij', (scanDown_end (fun x => !lt x dk[a]!) dk i2 j' (Or.inl hle)).symm.trans hsd.out, hSk⟩
    case rest =>
      clear hSk
      obtain ⟨j2, rfl, hjj, hij3, hj2, hSk⟩ := hcut
      by_cases hgt : j2 < i2
      · have e := part_first_break lt d a b pivot Hi.out Hj.out Hdk.out hi2.out hj2.out hgt
        have HE2 : Hid (partition lt d a b pivot = (j2, true, swp dk j2 a)) := e
        clear e
        go_wp2_with (go_at_call 131; refine (E.swapI hSk.out (i := j2) (j := a) rfl rfl (by omega) (by omega)).mono ?_; rintro e w2 ⟨rfl, hS2⟩)
        go_ret2
        rw [HE2.out]
        exact ⟨rfl, hS2.out⟩
      · have hlt3 := part_scans_lt lt a i j dk (by omega) hi2.out hj2.out (by omega)
        have e := part_first_go lt d a b pivot Hi.out Hj.out Hdk.out hi2.out hj2.out (by omega)
        have HP : Hid (partition lt d a b pivot = ((partLoop lt a (i2 + 1) (j2 - 1) (swp dk i2 j2)).1, false, swp (partLoop lt a (i2 + 1) (j2 - 1) (swp dk i2 j2)).2 (partLoop lt a (i2 + 1) (j2 - 1) (swp dk i2 j2)).1 a)) := e
        clear e
        go_upto_block 4 with (go_at_call 131; refine (E.swapI hSk.out (i := i2) (j := j2) rfl rfl (by omega) (by omega)).mono ?_; rintro e w2 ⟨rfl, hS2⟩)
        clear hSk Ei Ej
        go_wp2_with fail
        go_loopw [10, 11] (fun vi vj wr => ∃ (i j : Nat) (dj : Array α), vi = .int .i64 i ∧ vj = .int .i64 j ∧ a < i ∧ i ≤ j + 1 ∧ j < b ∧ Hid (S dj wr) ∧ Hid (partLoop lt a i j dj = partLoop lt a (i2 + 1) (j2 - 1) (swp dk i2 j2)))
          (fun vi vj _ => (intOf vj).toNat + 1 - (intOf vi).toNat)
        case atStart => exact ⟨i2 + 1, j2 - 1, _, by go_num, by go_num, by omega, by omega, by omega, hS2, rfl⟩
        case round =>
          clear hS2 hi2 hj2
          clear hii hij2 hjj hij3 hgt hlt3 Hdk Hi Hj hai hij hjb
          generalize HDK : swp dk i2 j2 = dk0 at *
          clear HDK
          obtain ⟨i, j, dk, rfl, rfl, hai, hij, hjb, hSk, HE⟩ := hrel
          go_upto_block 6 with fail
          go_cut [10] from 59 to 92 (fun s10 wx => ∃ i2 : Nat, s10 = .int .i64 i2 ∧ i ≤ i2 ∧ i2 ≤ j + 1 ∧ Hid (i2 = scanUp (fun x => lt x dk[a]!) dk j i) ∧ Hid (S dk wx))
          case first =>
            go_wp2_with fail
            (try rw [Ei]); (try rw [Ej])
            go_loopw [10] (fun vi w1 => ∃ i' : Nat, vi = .int .i64 i' ∧ i ≤ i' ∧ i' ≤ j + 1 ∧ Hid (scanUp (fun x => lt x dk[a]!) dk j i' = scanUp (fun x => lt x dk[a]!) dk j i) ∧ Hid (S dk w1)) (fun vi _ => j + 1 - (intOf vi).toNat)
            case atStart => exact ⟨i, by go_num, Nat.le_refl _, hij, rfl, hSk⟩
            case round =>
              clear hSk
              obtain ⟨i', rfl, hii, hij', hsc, hSk⟩ := hrel
              by_cases hle : i' ≤ j
              · cases hv : lt dk[i']! dk[a]! with
                | true =>
                  go_wp2_with (go_at_call 130; refine (E.lessV hSk.out hv (by omega) (by omega) (by omega) (by omega)).mono ?_; rintro e w2 ⟨rfl, hS2⟩)
                  go_roundw
                  case rel => exact ⟨i' + 1, by go_num, by omega, by omega, (scanUp_go (fun x => lt x dk[a]!) dk j i' hle hv).symm.trans hsc.out, hS2⟩
                  case measure => simp [intOf]; omega
                | false =>
                  go_wp2_with (go_at_call 130; refine (E.lessV hSk.out hv (by omega) (by omega) (by omega) (by omega)).mono ?_; rintro e w2 ⟨rfl, hS2⟩)
                  go_meet
                  exact ⟨i', rfl, hii, hij', (scanUp_end (fun x => lt x dk[a]!) dk j i' (Or.inr hv)).symm.trans hsc.out, hS2⟩
              · go_wp2
                go_meet
                exact ⟨i', rfl, hii, hij', (scanUp_end (fun x => lt x dk[a]!) dk j i' (Or.inl hle)).symm.trans hsc.out, hSk⟩
          case rest =>
            clear hSk
            obtain ⟨i2, rfl, hii, hij2, hi2, hSk⟩ := hcut
            go_upto_block 8 with fail
            go_cut [11] from 59 to 92 (fun s11 wx => ∃ j2 : Nat, s11 = .int .i64 j2 ∧ j2 ≤ j ∧ i2 ≤ j2 + 1 ∧ Hid (j2 = scanDown (fun x => !lt x dk[a]!) dk i2 j) ∧ Hid (S dk wx))
            case first =>
              go_wp2_with fail
              (try rw [Ej])
              go_loopw [11] (fun vj w2 => ∃ j' : Nat, vj = .int .i64 j' ∧ j' ≤ j ∧ i2 ≤ j' + 1 ∧ Hid (scanDown (fun x => !lt x dk[a]!) dk i2 j' = scanDown (fun x => !lt x dk[a]!) dk i2 j) ∧ Hid (S dk w2)) (fun vj _ => (intOf vj).toNat)
              case atStart => exact ⟨j, by go_num, Nat.le_refl _, hij2, rfl, hSk⟩
              case round =>
                clear hSk
                obtain ⟨j', rfl, hjj, hij', hsd, hSk⟩ := hrel
                by_cases hle : i2 ≤ j'
                · cases hv : lt dk[j']! dk[a]! with
                  | false =>
                    go_wp2_with (go_at_call 130; refine (E.lessV hSk.out hv (by omega) (by omega) (by omega) (by omega)).mono ?_; rintro e w2 ⟨rfl, hS2⟩)
                    go_roundw
                    case rel => exact ⟨j' - 1, by go_num, by omega, by omega, (scanDown_go (fun x => !lt x dk[a]!) dk i2 j' hle (by omega) (by simp [hv])).symm.trans hsd.out, hS2⟩
                    case measure => simp [intOf]; omega
                  | true =>
                    go_wp2_with (go_at_call 130; refine (E.lessV hSk.out hv (by omega) (by omega) (by omega) (by omega)).mono ?_; rintro e w2 ⟨rfl, hS2⟩)
                    go_meet
                    exact ⟨j', rfl, hjj, hij', (scanDown_end (fun x => !lt x dk[a]!) dk i2 j' (Or.inr (by simp [hv]))).symm.trans hsd.out, hS2⟩
                · go_wp2
                  go_meet
                  exact ⟨j', rfl, hjj, hij', (scanDown_end (fun x => !lt x dk[a]!) dk i2 j' (Or.inl hle)).symm.trans hsd.out, hSk⟩
            case rest =>
              clear hSk
              obtain ⟨j2, rfl, hjj, hij3, hj2, hSk⟩ := hcut
              by_cases hgt : j2 < i2
              · have e := part_break lt a i j dk hi2.out hj2.out hgt
                go_wp2_with (go_at_call 131; refine (E.swapI hSk.out (i := j2) (j := a) rfl rfl (by omega) (by omega)).mono ?_; rintro e w2 ⟨rfl, hS2⟩)
                go_ret2
                have e2 : partition lt d a b pivot = (j2, false, swp dk j2 a) := by rw [HP.out, ← HE.out, e]
                rw [e2]
                exact ⟨rfl, hS2.out⟩
              · have hlt3 := part_scans_lt lt a i j dk (by omega) hi2.out hj2.out (by omega)
                go_wp2_with (go_at_call 131; refine (E.swapI hSk.out (i := i2) (j := j2) rfl rfl (by omega) (by omega)).mono ?_; rintro e w2 ⟨rfl, hS2⟩)
                go_roundw
                case rel => exact ⟨i2 + 1, j2 - 1, _, by go_num, by go_num, by omega, by omega, by omega, hS2, by rw [← HE.out]; exact (part_go lt a i j dk hi2.out hj2.out (by omega)).symm⟩
                case measure => simp [intOf]; omega

end Go.Proofs.Ybulkaixg.Srt
