/-
  zzs1736ameets (7) and heapSet.meets (10).
-/
import Derived.Test.YbulkaixuDoorBase
namespace Go.Proofs.YbulkaixuDoor.Walk
open Go.RowKit
set_option linter.unusedVariables false
set_option linter.unusedSimpArgs false
set_option maxRecDepth 100000

/-- The slice holds the n words f. -/
def WordS (w : World) (a0 : Option Addr) (n : Nat) (f : Nat → Int) : Prop := ∀ i, i < n → ∃ x, a0 = some x ∧ w.cell? (x.add i) = some (.int .u64 (f i))

theorem cell_lt {w : World} {a : Addr} {v : Value} (h : w.cell? a = some v) : a.block < w.heap.size := by
  rcases Nat.lt_or_ge a.block w.heap.size with h' | h'
  · exact h'
  · simp [World.cell?, Array.getElem?_eq_none h'] at h

theorem WordS.below {w w' : World} {a0 : Option Addr} {n : Nat} {f : Nat → Int} (h : WordS w a0 n f) (hb : Below w.heap.size w w') : WordS w' a0 n f := by
  intro i hi
  obtain ⟨x, e, hc⟩ := h i hi
  exact ⟨x, e, (hb.cell (p := x.add i) (cell_lt hc)).trans hc⟩
theorem WordS.keep {w w' : World} {a0 : Option Addr} {n : Nat} {f : Nat → Int} (h : WordS w a0 n f) (hf : Fr [] w w') : WordS w' a0 n f := by
  intro i hi
  obtain ⟨x, e, hc⟩ := h i hi
  exact ⟨x, e, (World.cell?_of_block (a := x.add i) (hf.block _ (cell_lt hc) (by simp))).trans hc⟩

/-- Some word of the first k has a bit in common. -/
def meetU (f g : Nat → Int) : Nat → Bool
  | 0 => false
  | k + 1 => meetU f g k || decide (bits .and .u64 (f k) (g k) ≠ 0)

theorem meetU_mono {f g : Nat → Int} {i : Nat} (h : bits .and .u64 (f i) (g i) ≠ 0) : ∀ k, i < k → meetU f g k = true
  | 0, hi => by omega
  | k + 1, hi => by
    unfold meetU
    by_cases e : i = k
    · subst e; simp [h]
    · simp [meetU_mono h k (by omega)]

set_option maxHeartbeats 800000 in
theorem ameets_any (a0 b0 : Option Addr) (n m ca cb : Nat) (f g : Nat → Int) (w : World) (ha : WordS w a0 n f) (hb : WordS w b0 m g) (hn : n ≤ maxLen) (hm : m ≤ 1024) :
    Calls Ybad.prog 7 #[.slice a0 n ca, .slice b0 m cb] w fun e w' => e = .returned (.bool (meetU f g (Nat.min n m))) ∧ Fr [] w w' := by
  have HA := (show Hid (WordS w a0 n f) from ha)
  have HB := (show Hid (WordS w b0 m g) from hb)
  clear ha hb
  go_enter Ybad.func7, Ybad.ntmps7
  obtain ⟨mm, hmm⟩ : ∃ mm, mm = Nat.min n m := ⟨_, rfl⟩
  rw [← hmm]
  have h1 : mm ≤ n := by rw [hmm]; exact Nat.min_le_left _ _
  have h2 : mm ≤ m := by rw [hmm]; exact Nat.min_le_right _ _
  have HMM := (show Hid (mm = Nat.min n m) from hmm)
  clear hmm
  go_upto_if 12 with fail
  go_cut [5] from 7 to 14 (fun v wx => v = .int .i64 (mm : Nat) ∧ w = wx)
  case first =>
    have hmm := HMM.out
    by_cases hc : m < n
    · have hc' : (m : Int) < (n : Int) := by omega
      have he : mm = m := by rw [hmm]; exact Nat.min_eq_right (Nat.le_of_lt hc)
      have HE := (show Hid (mm = m) from he)
      clear hmm he
      go_wp2
      go_meet
      exact ⟨by rw [HE.out], rfl⟩
    · have hc' : ¬ (m : Int) < (n : Int) := by omega
      have he : mm = n := by rw [hmm]; exact Nat.min_eq_left (by omega)
      have HE := (show Hid (mm = n) from he)
      clear hmm he
      go_wp2
      go_meet
      exact ⟨by rw [HE.out], rfl⟩
  case rest =>
  obtain ⟨rfl, rfl⟩ := hcut
  go_wp2_with fail
  go_loopg [6] mm (fun k i wx => ∃ t : Nat, i = .int .i64 (t : Nat) ∧ k + t = mm ∧ meetU f g t = false ∧ Fr [] w wx)
  case atStart =>
    exact ⟨0, rfl, by omega, rfl, Fr.refl _ _⟩
  case round =>
    obtain ⟨t, rfl, hk, hmt, fx⟩ := hrel
    have HMT := (show Hid (meetU f g t = false) from hmt)
    have HFX := (show Hid (Fr [] w wr) from fx)
    by_cases ht : t < mm
    · have ht' : (t : Int) < (mm : Int) := by omega
      have htn : t < n := by omega
      have htm : t < m := by omega
      have htn' : (t : Int) < (n : Int) := by omega
      have htm' : (t : Int) < (m : Int) := by omega
      obtain ⟨x, hx, ca'⟩ := (HA.out.keep fx) t htn
      obtain ⟨y, hy, cb'⟩ := (HB.out.keep fx) t htm
      subst hx hy
      clear fx hmt
      go_upto_region 7 with fail
      by_cases hz : bits .and .u64 (f t) (g t) = 0
      · go_quiet (fail)
        go_wp2
        go_roundg (gk - 1)
        case measure => omega
        case rel =>
          refine ⟨t + 1, by simp, by omega, ?_, HFX.out.trans (Fr.drewN _ _)⟩
          unfold meetU
          rw [HMT.out, hz]
          rfl
      · have HZ := (show Hid (bits .and .u64 (f t) (g t) ≠ 0) from hz)
        go_quiet (fail)
        go_wp2
        go_ret
        exact ⟨by rw [meetU_mono HZ.out mm ht]; rfl, HFX.out.trans (Fr.drewN _ _)⟩
    · have ht' : ¬ (t : Int) < (mm : Int) := by omega
      have hte : t = mm := by omega
      have HTE := (show Hid (t = mm) from hte)
      clear hte hk hmt fx
      go_wp2
      go_ret
      have h := HMT.out
      rw [HTE.out] at h
      exact ⟨by rw [h]; rfl, HFX.out⟩

set_option maxHeartbeats 800000 in
theorem meets_any (a0 b0 : Option Addr) (n m ca cb : Nat) (f g : Nat → Int) (w : World) (ha : WordS w a0 n f) (hb : WordS w b0 m g) (hn : n ≤ maxLen) (hm : m ≤ 1024) :
    Calls Ybad.prog 10 #[.slice a0 n ca, .slice b0 m cb] w fun e w' => e = .returned (.bool (meetU f g (Nat.min n m))) ∧ Fr [] w w' := by
  have HA := (show Hid (WordS w a0 n f) from ha)
  have HB := (show Hid (WordS w b0 m g) from hb)
  clear ha hb
  go_enter Ybad.func10, Ybad.ntmps10
  obtain ⟨mm, hmm⟩ : ∃ mm, mm = Nat.min n m := ⟨_, rfl⟩
  rw [← hmm]
  have h1 : mm ≤ n := by rw [hmm]; exact Nat.min_le_left _ _
  have h2 : mm ≤ m := by rw [hmm]; exact Nat.min_le_right _ _
  have HMM := (show Hid (mm = Nat.min n m) from hmm)
  clear hmm
  go_upto_region 1 with fail
  go_cut [10, 11] from 6 to 11 (fun v z wx => v = .int .i64 (mm : Nat) ∧ z = .int .i64 0 ∧ w = wx)
  case first =>
    have hmm := HMM.out
    by_cases hc : m < n
    · have hc' : (m : Int) < (n : Int) := by omega
      have hc2 : ¬ (n : Int) < (m : Int) := by omega
      have he : mm = m := by rw [hmm]; exact Nat.min_eq_right (Nat.le_of_lt hc)
      have HE := (show Hid (mm = m) from he)
      clear hmm he
      go_wp2
      all_goals first | (exfalso; omega) | (go_meet; exact ⟨by rw [HE.out], rfl, rfl⟩)
    · have hc' : ¬ (m : Int) < (n : Int) := by omega
      have he : mm = n := by rw [hmm]; exact Nat.min_eq_left (by omega)
      have HE := (show Hid (mm = n) from he)
      clear hmm he
      go_wp2
      all_goals first | (go_meet; exact ⟨by rw [HE.out], rfl, rfl⟩) | (go_meet; exact ⟨by rw [HE.out]; congr 1; omega, rfl, rfl⟩)
  case rest =>
  obtain ⟨rfl, rfl, rfl⟩ := hcut
  go_wp2_with fail
  go_loopg [5, 11] mm (fun k j i wx => ∃ t : Nat, i = .int .i64 (t : Nat) ∧ k + t = mm ∧ meetU f g t = false ∧ Fr [] w wx)
  case atStart =>
    exact ⟨0, rfl, by omega, rfl, Fr.refl _ _⟩
  case round =>
    obtain ⟨t, rfl, hk, hmt, fx⟩ := hrel
    have HMT := (show Hid (meetU f g t = false) from hmt)
    have HFX := (show Hid (Fr [] w wr) from fx)
    by_cases ht : t < mm
    · have ht' : (t : Int) < (mm : Int) := by omega
      have htn : t < n := by omega
      have htm : t < m := by omega
      have htn' : (t : Int) < (n : Int) := by omega
      have htm' : (t : Int) < (m : Int) := by omega
      obtain ⟨x, hx, ca'⟩ := (HA.out.keep fx) t htn
      obtain ⟨y, hy, cb'⟩ := (HB.out.keep fx) t htm
      subst hx hy
      clear fx hmt
      go_upto_region 4 with fail
      by_cases hz : bits .and .u64 (f t) (g t) = 0
      · go_quiet (fail)
        go_wp2
        go_roundg (gk - 1)
        case measure => omega
        case rel =>
          refine ⟨t + 1, by simp, by omega, ?_, HFX.out.trans (Fr.drewN _ _)⟩
          unfold meetU
          rw [HMT.out, hz]
          rfl
      · have HZ := (show Hid (bits .and .u64 (f t) (g t) ≠ 0) from hz)
        go_quiet (fail)
        go_wp2
        go_ret
        exact ⟨by rw [meetU_mono HZ.out mm ht]; rfl, HFX.out.trans (Fr.drewN _ _)⟩
    · have ht' : ¬ (t : Int) < (mm : Int) := by omega
      have hte : t = mm := by omega
      have HTE := (show Hid (t = mm) from hte)
      clear hte hk hmt fx
      go_wp2
      go_ret
      have h := HMT.out
      rw [HTE.out] at h
      exact ⟨by rw [h]; rfl, HFX.out⟩

end Go.Proofs.YbulkaixuDoor.Walk
