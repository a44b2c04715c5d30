/-
  pdqsort (63), sort.Sort (58).
-/
import Derived.Test.YbulkaixgSrtD
import Derived.Test.YbulkaixgSrtE
import Derived.Test.YbulkaixgSrtG
import Derived.Sort.LotD3
namespace Go.Proofs.Ybulkaixg.Srt
open Go.RowKit Go.Sort
set_option linter.unusedVariables false
set_option linter.unusedSimpArgs false
set_option maxRecDepth 100000
variable {α : Type} [Inhabited α]
variable {N base : Nat} {rv : Value} {lt : α → α → Bool} {S : Array α → World → Prop}

set_option maxHeartbeats 16000000 in
theorem pdq_step (E : Env N base rv lt S) (m : Nat)
    (IH : ∀ (a b lim : Nat) (d : Array α) (w : World), S d w → a ≤ b → b ≤ N → b - a < m → lim < 1048576 → Sort.Below lt a b d →
      Calls Yba.prog 63 #[.iface 204 rv, .int .i64 a, .int .i64 b, .int .i64 lim] w fun e w' => e = .returned (.tuple #[]) ∧ ∃ d', Hid (PermIn a b d d') ∧ Hid (SortedIn lt a b d') ∧ Hid (S d' w'))
    (a b lim : Nat) (d : Array α) (w : World) (hS : S d w) (hab : a ≤ b) (hb : b ≤ N) (hm : b - a ≤ m) (hlim : lim < 1048576) (hB : Sort.Below lt a b d) :
    Calls Yba.prog 63 #[.iface 204 rv, .int .i64 a, .int .i64 b, .int .i64 lim] w fun e w' => e = .returned (.tuple #[]) ∧ ∃ d', Hid (PermIn a b d d') ∧ Hid (SortedIn lt a b d') ∧ Hid (S d' w') := by
  have mL := E.mL; have hN := E.small
  have HSW : Hid (SWO lt) := E.swo
  go_enter Yba.func63, Yba.ntmps63
  go_wp2
  go_loopg [1, 2, 3, 8, 9] (b - a) (fun g v1 v2 v3 v8 v9 wr => ∃ (a' b' l : Nat) (bal par : Bool) (dk : Array α), v1 = .int .i64 a' ∧ v2 = .int .i64 b' ∧ v3 = .int .i64 l ∧ v8 = .bool bal ∧ v9 = .bool par ∧ a ≤ a' ∧ a' ≤ b' ∧ b' ≤ b ∧ l < 1048576 ∧ b' - a' ≤ g ∧ Hid (S dk wr) ∧ Hid (Sort.Below lt a' b' dk) ∧ Hid (∀ R, PermIn a' b' dk R → SortedIn lt a' b' R → PermIn a b d R ∧ SortedIn lt a b R))
  case atStart => exact ⟨a, b, lim, true, true, d, rfl, rfl, rfl, rfl, rfl, Nat.le_refl _, hab, Nat.le_refl _, hlim, Nat.le_refl _, hS, hB, fun R h1 h2 => ⟨h1, h2⟩⟩
  case round =>
    clear hS hB
    obtain ⟨a', b', l, bal, par, dk, rfl, rfl, rfl, rfl, rfl, ha1, hab1, hb1, hl1, hg, HS, HB, HR⟩ := hrel
    have hbN : b' ≤ N := by omega
    by_cases h12 : b' - a' ≤ 12
    · have h12z : (b' : Int) - (a' : Int) ≤ 12 := by omega
      go_wp2_with (go_at_call 73; refine (ins_walk E a' b' dk _ HS.out hab1 hbN).mono ?_; rintro e w1 ⟨rfl, hS1⟩)
      (try simp only [Exit.inBlock, Exit.then]); refine bodyPost_ret (results_none rfl _ _ _) rfl ?_
      have hh := insertionSort_holds (lt := lt) HSW.out dk a' b' hab1 (by rw [E.size _ _ HS.out]; exact hbN)
      have h2 := HR.out _ hh.1 hh.2
      exact ⟨rfl, _, h2.1, h2.2, hS1⟩
    · have h12z : ¬ ((b' : Int) - (a' : Int) ≤ 12) := by omega
      by_cases hl0 : l = 0
      · subst hl0
        go_wp2_with (go_at_call 74; refine (heap_walk E a' b' dk _ HS.out hab1 hbN).mono ?_; rintro e w1 ⟨rfl, hS1⟩)
        (try simp only [Exit.inBlock, Exit.then]); refine bodyPost_ret (results_none rfl _ _ _) rfl ?_
        have hh := heapSort_holds (lt := lt) HSW.out dk a' b' hab1 (by rw [E.size _ _ HS.out]; exact hbN)
        have h2 := HR.out _ hh.1 hh.2
        exact ⟨rfl, _, h2.1, h2.2, hS1⟩
      · have hl0z : ¬ ((l : Int) = 0) := by omega
        go_upto_if 35 with fail
        go_cut [3] from 19 to 128 (fun s3 wx => ∃ (l2 : Nat) (d2 : Array α), s3 = .int .i64 l2 ∧ l2 < 1048576 ∧ Hid (PermIn a' b' dk d2) ∧ Hid (S d2 wx))
        case first =>
          cases bal with
          | true =>
            go_wp2
            go_meet
            exact ⟨l, dk, rfl, hl1, permIn_refl dk a' b', HS⟩
          | false =>
            go_wp2_with (go_at_call 75; refine (break_walk E a' b' dk _ HS.out hab1 hbN).mono ?_; rintro e w1 ⟨rfl, d2, hp, hS1⟩)
            go_meet
            exact ⟨l - 1, d2, by go_num, by omega, hp, hS1⟩
        case rest =>
          obtain ⟨l2, d2, rfl, hl2, HP2, HS2⟩ := hcut
          clear hl0 hl0z
          have HB2 : Hid (Sort.Below lt a' b' d2) := HB.out.perm (by rw [E.size _ _ HS.out]; exact hbN) HP2.out
          have HR2 : Hid (∀ R, PermIn a' b' d2 R → SortedIn lt a' b' R → PermIn a b d R ∧ SortedIn lt a b R) := fun R h1 h2 => HR.out R (permIn_trans _ _ _ _ _ HP2.out h1) h2
          clear HS HB HR HP2
          clear hl1
          go_upto_if 50 with (go_at_call 76; refine (choose_walk E a' b' d2 _ HS2.out (by omega) hbN).mono ?_; rintro e w1 ⟨p, h, rfl, hp1, hp2, hh, HS3⟩)
          go_cut [11, 12] from 19 to 128 (fun s11 s12 wx => ∃ (p : Nat) (h : Int) (d3 : Array α), s11 = .int .i64 p ∧ s12 = .int .i64 h ∧ a' ≤ p ∧ p < b' ∧ Hid (PermIn a' b' d2 d3) ∧ Hid (S d3 wx))
          case first =>
            rcases hh.out with rfl | rfl | rfl
            · go_wp2
              go_meet
              exact ⟨p, 0, d2, rfl, rfl, hp1, hp2, permIn_refl d2 a' b', HS3⟩
            · go_wp2
              go_meet
              exact ⟨p, 1, d2, rfl, rfl, hp1, hp2, permIn_refl d2 a' b', HS3⟩
            · go_wp2_with (go_at_call 77; refine (rev_walk E a' b' d2 _ HS3.out hab1 hbN).mono ?_; rintro e w1 ⟨rfl, d3, hp, hS1⟩)
              go_meet
              exact ⟨b' - 1 - (p - a'), 1, d3, by go_num, rfl, by omega, by omega, hp, hS1⟩
          case rest =>
            clear hh hp1 hp2 HS3
            obtain ⟨p, h, d3, rfl, rfl, hp1, hp2, HP3, HS3⟩ := hcut
            have HB3 : Hid (Sort.Below lt a' b' d3) := HB2.out.perm (by rw [E.size _ _ HS2.out]; exact hbN) HP3.out
            have HR3 : Hid (∀ R, PermIn a' b' d3 R → SortedIn lt a' b' R → PermIn a b d R ∧ SortedIn lt a b R) := fun R h1 h2 => HR2.out R (permIn_trans _ _ _ _ _ HP3.out h1) h2
            clear HS2 HB2 HR2 HP3
            go_upto_region 15 with fail
            go_cut [12, 68] from 19 to 128 (fun s12 s68 wx => ∃ (h : Int) (c : Bool), s12 = .int .i64 h ∧ s68 = .bool c ∧ Hid (S d3 wx))
            case first =>
              cases bal <;> cases par <;> by_cases hh : h = 1
              all_goals (go_wp2; go_meet; exact ⟨h, _, rfl, rfl, HS3⟩)
            case rest =>
              clear HS3
              obtain ⟨h, c, rfl, rfl, HS3⟩ := hcut
              have hsz3 := E.size _ _ HS3.out
              have hH := partialInsertionSort_holds (lt := lt) HSW.out d3 a' b' (by omega) (by omega) HB3.out
              go_upto_if 68 with fail
              have HH : Hid (PermIn a' b' d3 (partialInsertionSort lt d3 a' b').1 ∧ ((partialInsertionSort lt d3 a' b').2 = true → SortedIn lt a' b' (partialInsertionSort lt d3 a' b').1)) := hH
              clear hH
              go_cut [] from 19 to 128 (fun wx => ∃ (d4 : Array α), Hid (PermIn a' b' d3 d4) ∧ Hid (S d4 wx))
              case first =>
                cases c with
                | false =>
                  go_wp2
                  go_meet
                  exact ⟨d3, permIn_refl d3 a' b', HS3⟩
                | true =>
                  cases hv : (partialInsertionSort lt d3 a' b').2 with
                  | true =>
                    go_wp2_with (go_at_call 78; refine (pins_walk E a' b' d3 _ HS3.out (by omega) hbN).mono ?_; rintro e w1 ⟨rfl, hS1⟩; rw [hv])
                    (try simp only [Exit.inBlock, Exit.then]); refine bodyPost_ret (results_none rfl _ _ _) rfl ?_
                    have h2 := HR3.out _ HH.out.1 (HH.out.2 hv)
                    exact ⟨rfl, _, h2.1, h2.2, hS1⟩
                  | false =>
                    go_wp2_with (go_at_call 78; refine (pins_walk E a' b' d3 _ HS3.out (by omega) hbN).mono ?_; rintro e w1 ⟨rfl, hS1⟩; rw [hv])
                    go_meet
                    exact ⟨_, HH.out.1, hS1⟩
              case rest =>
                obtain ⟨d4, HP4, HS4⟩ := hcut
                have HB4 : Hid (Sort.Below lt a' b' d4) := HB3.out.perm (by rw [hsz3]; exact hbN) HP4.out
                have HR4 : Hid (∀ R, PermIn a' b' d4 R → SortedIn lt a' b' R → PermIn a b d R ∧ SortedIn lt a b R) := fun R h1 h2 => HR3.out R (permIn_trans _ _ _ _ _ HP4.out h1) h2
                clear HS3 HB3 HR3 HP4 HH hsz3
                have hsz4 := E.size _ _ HS4.out
                go_upto_region 17 with fail
                go_cut [82] from 19 to 128 (fun s82 wx => ∃ c2 : Bool, s82 = .bool c2 ∧ Hid (c2 = true → 0 < a' ∧ lt d4[a' - 1]! d4[p]! = false) ∧ Hid (S d4 wx))
                case first =>
                  by_cases h0 : 0 < a'
                  · have h0z : (0 : Int) < (a' : Int) := by omega
                    cases hv : lt d4[a' - 1]! d4[p]! with
                    | true =>
                      go_wp2_with (go_at_call 130; refine (E.lessV HS4.out hv (by omega) (by omega) (by omega) (by omega)).mono ?_; rintro e w2 ⟨rfl, hS2⟩)
                      go_meet
                      exact ⟨false, rfl, (fun h => absurd h (by simp)), hS2⟩
                    | false =>
                      go_wp2_with (go_at_call 130; refine (E.lessV HS4.out hv (by omega) (by omega) (by omega) (by omega)).mono ?_; rintro e w2 ⟨rfl, hS2⟩)
                      go_meet
                      exact ⟨true, rfl, (fun _ => ⟨h0, hv⟩), hS2⟩
                  · have h0z : ¬ ((0 : Int) < (a' : Int)) := by omega
                    go_wp2
                    go_meet
                    exact ⟨false, rfl, (fun h => absurd h (by simp)), HS4⟩
                case rest =>
                  clear HS4
                  obtain ⟨c2, rfl, HC, HS4⟩ := hcut
                  cases c2 with
                  | true =>
                    have hc := HC.out rfl
                    have hq := round_eq (lt := lt) HSW.out (partitionEqual_holds lt) (mid := (partitionEqual lt d4 a' b' p).1) (d4 := (partitionEqual lt d4 a' b' p).2) hc.1 hp1 hp2 (by omega) HB4.out hc.2 rfl
                    have hw := partEq_walk E a' b' p d4
                    generalize (partitionEqual lt d4 a' b' p).1 = mid at hq hw
                    generalize (partitionEqual lt d4 a' b' p).2 = d5 at hq hw
                    obtain ⟨q1, q2, q3, q4, q5⟩ := hq
                    have HQ4 : Hid (Sort.Below lt mid b' d5) := q4
                    have HQ5 : Hid (∀ R, PermIn mid b' d5 R → SortedIn lt mid b' R → PermIn a' b' d4 R ∧ SortedIn lt a' b' R) := q5
                    clear q3 q4 q5 hc HC
                    go_wp2_with (go_at_call 79; refine (hw _ HS4.out hp1 hp2 hbN).mono ?_; rintro e w2 ⟨rfl, hS2⟩)
                    go_roundg (b' - mid)
                    case measure => omega
                    case rel => exact ⟨mid, b', l2, bal, par, d5, rfl, rfl, rfl, rfl, rfl, by omega, by omega, by omega, hl2, by omega, hS2, HQ4, fun R h1 h2 => HR4.out R (HQ5.out R h1 h2).1 (HQ5.out R h1 h2).2⟩
                  | false =>
                    clear HC
                    have hq := round_part (lt := lt) HSW.out (partition_holds lt) (mid := (partition lt d4 a' b' p).1) (ap := (partition lt d4 a' b' p).2.1) (d4 := (partition lt d4 a' b' p).2.2) hp1 hp2 (by omega) HB4.out rfl
                    have hw := part_walk E a' b' p d4
                    generalize (partition lt d4 a' b' p).1 = mid at hq hw
                    generalize (partition lt d4 a' b' p).2.1 = ap at hq hw
                    generalize (partition lt d4 a' b' p).2.2 = d5 at hq hw
                    obtain ⟨q1, q2, q3, q4, q5, q6, q7⟩ := hq
                    have HQ4 : Hid (Sort.Below lt a' mid d5) := q4
                    have HQ5 : Hid (Sort.Below lt (mid + 1) b' d5) := q5
                    have HQ6 : Hid (∀ L, PermIn a' mid d5 L → SortedIn lt a' mid L → Sort.Below lt (mid + 1) b' L ∧ ∀ R, PermIn (mid + 1) b' L R → SortedIn lt (mid + 1) b' R → PermIn a' b' d4 R ∧ SortedIn lt a' b' R) := q6
                    have HQ7 : Hid (∀ L, PermIn (mid + 1) b' d5 L → SortedIn lt (mid + 1) b' L → Sort.Below lt a' mid L ∧ ∀ R, PermIn a' mid L R → SortedIn lt a' mid R → PermIn a' b' d4 R ∧ SortedIn lt a' b' R) := q7
                    clear q3 q4 q5 q6 q7
                    go_upto_if 108 with (go_at_call 80; refine (hw _ HS4.out hp1 hp2 hbN).mono ?_; rintro e w2 ⟨rfl, hS2⟩)
                    have HS5 : Hid (S d5 w2) := hS2
                    clear hS2 hw HS4
                    by_cases hlr : mid - a' < b' - mid
                    · have hlrz : (mid : Int) - a' < (b' : Int) - mid := by omega
                      go_wp2_with (go_at_call 63; refine (IH a' mid l2 d5 _ HS5.out (by omega) (by omega) (by omega) hl2 HQ4.out).mono ?_; rintro e w3 ⟨rfl, d6, HP6, HO6, HS6⟩)
                      go_roundg (b' - (mid + 1))
                      case measure => omega
                      case rel => exact ⟨mid + 1, b', l2, _, ap, d6, by go_num, rfl, rfl, rfl, rfl, by omega, by omega, by omega, hl2, by omega, HS6, (HQ6.out d6 HP6.out HO6.out).1, fun R h1 h2 => have z := (HQ6.out d6 HP6.out HO6.out).2 R h1 h2; HR4.out R z.1 z.2⟩
                    · have hlrz : ¬ ((mid : Int) - a' < (b' : Int) - mid) := by omega
                      have ih := IH (mid + 1) b' l2 d5 w2 HS5.out (by omega) (by omega) (by omega) hl2 HQ5.out
                      rw [show ((mid + 1 : Nat) : Int) = (mid : Int) + 1 by omega] at ih
                      go_wp2_with (go_at_call 63; refine ih.mono ?_; rintro e w3 ⟨rfl, d6, HP6, HO6, HS6⟩)
                      go_roundg (mid - a')
                      case measure => omega
                      case rel => exact ⟨a', mid, l2, _, ap, d6, rfl, rfl, rfl, rfl, rfl, by omega, by omega, by omega, hl2, by omega, HS6, (HQ7.out d6 HP6.out HO6.out).1, fun R h1 h2 => have z := (HQ7.out d6 HP6.out HO6.out).2 R h1 h2; HR4.out R z.1 z.2⟩

theorem pdq_walk (E : Env N base rv lt S) (m : Nat) : ∀ (a b lim : Nat) (d : Array α) (w : World), S d w → a ≤ b → b ≤ N → b - a < m → lim < 1048576 → Sort.Below lt a b d →
    Calls Yba.prog 63 #[.iface 204 rv, .int .i64 a, .int .i64 b, .int .i64 lim] w fun e w' => e = .returned (.tuple #[]) ∧ ∃ d', Hid (PermIn a b d d') ∧ Hid (SortedIn lt a b d') ∧ Hid (S d' w') := by
  induction m with
  | zero => intro a b lim d w _ _ _ h; omega
  | succ m ih => intro a b lim d w h1 h2 h3 h4 h5 h6; exact pdq_step E m ih a b lim d w h1 h2 h3 (by omega) h5 h6

set_option maxHeartbeats 2000000 in
/-- sort.Sort. -/
theorem sort_walk (E : Env N base rv lt S) (d : Array α) (w : World) (hS : S d w) :
    Calls Yba.prog 58 #[.iface 204 rv] w fun e w' => e = .returned (.tuple #[]) ∧ ∃ d', Hid (PermIn 0 N d d') ∧ Hid (SortedIn lt 0 N d') ∧ Hid (S d' w') := by
  have mN := E.mN; have hN := E.small
  have HN : ∀ w, S d w → Calls Yba.prog 129 #[rv] w fun e w' => e = .returned (.int .i64 N) ∧ Hid (S d w') := fun w h => E.len d w h
  have wr : IntKind.u64.wrap (N : Int) = N := by simp [IntKind.wrap, IntKind.bits, IntKind.signed]; omega
  have HL : ∀ w, Calls Yba.prog 62 #[.int .u64 (N : Int)] w fun e w' => ∃ L : Nat, e = .returned (.int .i64 (L : Nat)) ∧ L < 1048576 ∧ w' = w := fun w => by
    refine (Yba.bits_Len (N : Int) w (by omega) (by omega)).mono ?_
    rintro e w' ⟨rfl, rfl⟩
    refine ⟨_, rfl, ?_, rfl⟩
    rw [Int.toNat_natCast, bitLen_eq _ (by omega)]
    have := (bitsLen_le_iff N 62).2 (by omega)
    omega
  go_enter Yba.func58, Yba.ntmps58
  by_cases h1 : N ≤ 1
  · have h1z : (N : Int) ≤ 1 := by omega
    go_wp2_with (go_at_call 129; refine (HN _ hS).mono ?_; rintro e w1 ⟨rfl, HS⟩)
    (try simp only [Exit.inBlock, Exit.then]); refine bodyPost_ret (results_none rfl _ _ _) rfl ?_
    exact ⟨rfl, d, permIn_refl d 0 N, (fun i j _ h2 h3 => by omega), HS⟩
  · have h1z : ¬ (N : Int) ≤ 1 := by omega
    go_wp2_with (first
      | (go_at_call 129; refine (HN _ hS).mono ?_; rintro e w1 ⟨rfl, HS⟩)
      | (go_at_call 62; refine (HL _).mono ?_; rintro e w2 ⟨L, rfl, hL, rfl⟩)
      | (go_at_call 63; refine (pdq_walk E (N + 1) 0 N L d _ HS.out (Nat.zero_le _) (Nat.le_refl _) (by omega) hL (Or.inl rfl)).mono ?_; rintro e w3 ⟨rfl, d', HP, HO, HS3⟩))
    go_end0
    exact ⟨rfl, d', HP, HO, HS3⟩

end Go.Proofs.Ybulkaixg.Srt
