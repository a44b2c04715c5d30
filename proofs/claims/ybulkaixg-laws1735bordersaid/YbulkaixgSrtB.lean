/-
  siftDown (81), heapSort (74).
-/
import Derived.Test.YbulkaixgSrtA
namespace Go.Proofs.Ybulkaixg.Srt
open Go.RowKit Go.Sort
set_option linter.unusedVariables false
set_option linter.unusedSimpArgs false
set_option maxRecDepth 100000
variable {α : Type} [Inhabited α]
variable {N base : Nat} {rv : Value} {lt : α → α → Bool} {S : Array α → World → Prop}

theorem Env.lessV (E : Env N base rv lt S) {d : Array α} {w : World} (h : S d w) {i j : Nat} {v : Bool} (hv : lt d[i]! d[j]! = v) {x y : Int} (hx : x = i) (hy : y = j) (hi : i < N) (hj : j < N) :
    Calls Yba.prog 130 #[rv, .int .i64 x, .int .i64 y] w fun e w' => e = .returned (.bool v) ∧ Hid (S d w') := by
  subst hv
  exact E.lessI h hx hy hi hj

set_option maxHeartbeats 4000000 in
theorem sift_walk (E : Env N base rv lt S) (lo hi F : Nat) (d : Array α) (w : World) (hS : S d w) (hlo : lo ≤ hi) (hb : F + hi ≤ N) :
    Calls Yba.prog 81 #[.iface 204 rv, .int .i64 lo, .int .i64 hi, .int .i64 F] w fun e w' => e = .returned (.tuple #[]) ∧ S (siftDown lt hi F lo d) w' := by
  have mL := E.mL; have mS := E.mS; have hN := E.small
  go_enter Yba.func81, Yba.ntmps81
  go_wp2
  go_loopw [8] (fun vi wr => ∃ (r : Nat) (dk : Array α), vi = .int .i64 r ∧ r ≤ hi ∧ Hid (S dk wr) ∧ Hid (siftDown lt hi F r dk = siftDown lt hi F lo d)) (fun vi _ => hi + 1 - (intOf vi).toNat)
  case atStart => exact ⟨lo, d, rfl, hlo, hS, rfl⟩
  case round =>
    obtain ⟨r, dk, rfl, hr, hSk, HE⟩ := hrel
    by_cases h1 : 2 * r + 1 < hi
    · have h1z : ¬ ((hi : Int) ≤ 2 * (r : Int) + 1) := by omega
      by_cases h2 : 2 * r + 2 < hi
      · have h2z : 2 * (r : Int) + 1 + 1 < (hi : Int) := by omega
        cases hv1 : lt dk[F + (2 * r + 1)]! dk[F + (2 * r + 2)]! with
        | true =>
          cases hv2 : lt dk[F + r]! dk[F + (2 * r + 2)]! with
          | true =>
            go_wp2_with (first
              | (go_at_call 130; refine (E.lessV hSk.out hv1 (by omega) (by omega) (by omega) (by omega)).mono ?_; rintro e w1 ⟨rfl, hS1⟩)
              | (go_at_call 130; refine (E.lessV hS1.out hv2 (by omega) (by omega) (by omega) (by omega)).mono ?_; rintro e w2 ⟨rfl, hS2⟩)
              | (go_at_call 131; refine (E.swapI hS2.out (i := F + r) (j := F + (2 * r + 2)) (by omega) (by omega) (by omega) (by omega)).mono ?_; rintro e w3 ⟨rfl, hS3⟩))
            go_roundw
            case rel => exact ⟨2 * r + 2, _, by go_num, by omega, hS3, by rw [← HE.out, sd_right_go lt dk h2 hv1 hv2]; exact rfl⟩
            case measure => simp [intOf]; omega
          | false =>
            go_wp2_with (first
              | (go_at_call 130; refine (E.lessV hSk.out hv1 (by omega) (by omega) (by omega) (by omega)).mono ?_; rintro e w1 ⟨rfl, hS1⟩)
              | (go_at_call 130; refine (E.lessV hS1.out hv2 (by omega) (by omega) (by omega) (by omega)).mono ?_; rintro e w2 ⟨rfl, hS2⟩))
            (try simp only [Exit.inBlock, Exit.then]); refine bodyPost_ret (results_none rfl _ _ _) rfl ?_
            exact ⟨rfl, by rw [← HE.out, sd_right_stop lt dk h2 hv1 hv2]; exact hS2.out⟩
        | false =>
          cases hv2 : lt dk[F + r]! dk[F + (2 * r + 1)]! with
          | true =>
            go_wp2_with (first
              | (go_at_call 130; refine (E.lessV hSk.out hv1 (by omega) (by omega) (by omega) (by omega)).mono ?_; rintro e w1 ⟨rfl, hS1⟩)
              | (go_at_call 130; refine (E.lessV hS1.out hv2 (by omega) (by omega) (by omega) (by omega)).mono ?_; rintro e w2 ⟨rfl, hS2⟩)
              | (go_at_call 131; refine (E.swapI hS2.out (i := F + r) (j := F + (2 * r + 1)) (by omega) (by omega) (by omega) (by omega)).mono ?_; rintro e w3 ⟨rfl, hS3⟩))
            go_roundw
            case rel => exact ⟨2 * r + 1, _, by go_num, by omega, hS3, by rw [← HE.out, sd_left_go lt dk h1 (fun _ => hv1) hv2]; exact rfl⟩
            case measure => simp [intOf]; omega
          | false =>
            go_wp2_with (first
              | (go_at_call 130; refine (E.lessV hSk.out hv1 (by omega) (by omega) (by omega) (by omega)).mono ?_; rintro e w1 ⟨rfl, hS1⟩)
              | (go_at_call 130; refine (E.lessV hS1.out hv2 (by omega) (by omega) (by omega) (by omega)).mono ?_; rintro e w2 ⟨rfl, hS2⟩))
            (try simp only [Exit.inBlock, Exit.then]); refine bodyPost_ret (results_none rfl _ _ _) rfl ?_
            exact ⟨rfl, by rw [← HE.out, sd_left_stop lt dk h1 (fun _ => hv1) hv2]; exact hS2.out⟩
      · have h2z : ¬ (2 * (r : Int) + 1 + 1 < (hi : Int)) := by omega
        cases hv2 : lt dk[F + r]! dk[F + (2 * r + 1)]! with
        | true =>
          go_wp2_with (first
            | (go_at_call 130; refine (E.lessV hSk.out hv2 (by omega) (by omega) (by omega) (by omega)).mono ?_; rintro e w2 ⟨rfl, hS2⟩)
            | (go_at_call 131; refine (E.swapI hS2.out (i := F + r) (j := F + (2 * r + 1)) (by omega) (by omega) (by omega) (by omega)).mono ?_; rintro e w3 ⟨rfl, hS3⟩))
          go_roundw
          case rel => exact ⟨2 * r + 1, _, by go_num, by omega, hS3, by rw [← HE.out, sd_left_go lt dk h1 (fun h => absurd h h2) hv2]; exact rfl⟩
          case measure => simp [intOf]; omega
        | false =>
          go_wp2_with (go_at_call 130; refine (E.lessV hSk.out hv2 (by omega) (by omega) (by omega) (by omega)).mono ?_; rintro e w2 ⟨rfl, hS2⟩)
          (try simp only [Exit.inBlock, Exit.then]); refine bodyPost_ret (results_none rfl _ _ _) rfl ?_
          exact ⟨rfl, by rw [← HE.out, sd_left_stop lt dk h1 (fun h => absurd h h2) hv2]; exact hS2.out⟩
    · have h1z : (hi : Int) ≤ 2 * (r : Int) + 1 := by omega
      go_wp2
      go_end0
      exact ⟨rfl, by rw [← HE.out, sd_end lt dk (by omega)]; exact hSk.out⟩

set_option maxHeartbeats 4000000 in
theorem heap_walk (E : Env N base rv lt S) (a b : Nat) (d : Array α) (w : World) (hS : S d w) (hab : a ≤ b) (hb : b ≤ N) :
    Calls Yba.prog 74 #[.iface 204 rv, .int .i64 a, .int .i64 b] w fun e w' => e = .returned (.tuple #[]) ∧ S (heapSort lt d a b) w' := by
  have mS := E.mS; have hN := E.small
  have ecast : ((b - a : Nat) : Int) = (b : Int) - (a : Int) := by omega
  have hsift : ∀ (x : Int) (k hi : Nat) (dk : Array α) (wk : World), x = hi → S dk wk → k ≤ hi → a + hi ≤ N → Calls Yba.prog 81 #[.iface 204 rv, .int .i64 k, .int .i64 x, .int .i64 a] wk fun e w' => e = .returned (.tuple #[]) ∧ Hid (S (siftDown lt hi a k dk) w') :=
    fun x k hi dk wk hx h h1 h2 => by subst hx; exact sift_walk E k hi a dk wk h h1 h2
  go_enter Yba.func74, Yba.ntmps74
  go_wp2
  go_loopg [9] ((b - a - 1) / 2 + 1) (fun kx s9 wr => s9 = .int .i64 ((kx : Int) - 1) ∧ kx ≤ (b - a - 1) / 2 + 1 ∧ ∃ (dk : Array α), Hid (S dk wr) ∧ Hid (heapBuild lt (b - a) a kx dk = heapBuild lt (b - a) a ((b - a - 1) / 2 + 1) d))
  case atStart => exact ⟨by rw [half_start hab], Nat.le_refl _, d, hS, rfl⟩
  case round =>
    obtain ⟨rfl, hkk, dk, hSk, HE⟩ := hrel
    cases gk with
    | zero =>
      have hB : Hid (dk = heapBuild lt (b - a) a ((b - a - 1) / 2 + 1) d) := HE.out
      clear HE hkk
      go_wp2
      go_loopg [10] (b - a) (fun kx s10 wr2 => s10 = .int .i64 ((kx : Int) - 1) ∧ kx ≤ b - a ∧ ∃ (dj : Array α), Hid (S dj wr2) ∧ Hid (heapPop lt a kx dj = heapPop lt a (b - a) dk))
      case atStart => exact ⟨by rw [ecast], Nat.le_refl _, dk, hSk, rfl⟩
      case round =>
        clear hSk
        obtain ⟨rfl, hkk, dj, hSj, HE2⟩ := hrel
        cases gk with
        | zero =>
          go_wp2
          go_end0
          exact ⟨rfl, by rw [heapSort, ← hB.out, ← HE2.out]; exact hSj.out⟩
        | succ kx =>
          go_wp2_with (first
            | (go_at_call 131; refine (E.swapI hSj.out (i := a) (j := a + kx) (by omega) (by omega) (by omega) (by omega)).mono ?_; rintro e w1 ⟨rfl, hS1⟩)
            | (go_at_call 81; refine (hsift kx 0 kx _ _ rfl hS1.out (by omega) (by omega)).mono ?_; rintro e w2 ⟨rfl, hS2⟩))
          go_roundg kx
          case measure => omega
          case rel => exact ⟨by simp, by omega, _, hS2, HE2⟩
    | succ kx =>
      go_wp2_with (go_at_call 81; refine (hsift _ kx (b - a) _ _ (by omega) hSk.out (by omega) (by omega)).mono ?_; rintro e w1 ⟨rfl, hS1⟩)
      go_roundg kx
      case measure => omega
      case rel => exact ⟨by simp, by omega, _, hS1, HE⟩

end Go.Proofs.Ybulkaixg.Srt
