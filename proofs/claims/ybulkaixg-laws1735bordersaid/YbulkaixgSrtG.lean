/-
  (*xorshift).Next (83), nextPowerOfTwo (82), breakPatterns (75): some permutation of [a, b).
-/
import Derived.Test.YbulkaixgSrtF
import Derived.Test.YbulkaixgLens
import Derived.Sort.Walk7
import Derived.Sort.WalkA14
namespace Go.Proofs.Ybulkaixg.Srt
open Go.RowKit Go.Sort
set_option linter.unusedVariables false
set_option linter.unusedSimpArgs false
set_option maxRecDepth 100000
variable {α : Type} [Inhabited α]
variable {N base : Nat} {rv : Value} {lt : α → α → Bool} {S : Array α → World → Prop}

/-- The random number at block c. -/
structure Rnd (base c : Nat) (w : World) : Prop where
  lo : base ≤ c
  hi : c < w.heap.size
  cell : ∃ X : Nat, X < 18446744073709551616 ∧ w.cell? ⟨c, 0, none⟩ = some (.int .u64 X)
  free : w.frozen? ⟨c, 0, none⟩ = false

theorem Rnd.up {c : Nat} {w w' : World} (h : Rnd base c w) (u : Up base w w') : Rnd base c w' := by
  obtain ⟨s, hl, hs⟩ := h.cell
  have hb := u.block c h.lo h.hi
  exact ⟨h.lo, Nat.lt_of_lt_of_le h.hi u.size, ⟨s, hl, (World.cell?_of_block hb).trans hs⟩, (World.frozen?_of_block hb).trans h.free⟩

theorem xor_some (x y : Nat) (hx : x < 18446744073709551616) (hy : y < 18446744073709551616) : ∃ z : Nat, bits .xor .u64 (x : Int) (y : Int) = (z : Int) ∧ z < 18446744073709551616 :=
  ⟨x ^^^ y, bits_xor_u64_nat _ _ hx hy, Nat.xor_lt_two_pow (n := 64) (by omega) (by omega)⟩

set_option maxHeartbeats 4000000 in
theorem next_raw (c X : Nat) (hX : X < 18446744073709551616) (w : World) (hc : w.cell? ⟨c, 0, none⟩ = some (.int .u64 X)) (hf : w.frozen? ⟨c, 0, none⟩ = false) :
    Calls Yba.prog 83 #[.pointer (some ⟨c, 0, none⟩)] w fun e w' => ∃ Y : Nat, Y < 18446744073709551616 ∧ e = .returned (.int .u64 Y) ∧ w' = (w.setCell ⟨c, 0, none⟩ (.int .u64 Y)).drewN 3 := by
  obtain ⟨A, e1, lA⟩ := xor_some X (X * 8192 % 18446744073709551616) hX (by omega)
  obtain ⟨B, e2, lB⟩ := xor_some A (A / 128) lA (by omega)
  obtain ⟨C, e3, lC⟩ := xor_some B (B * 131072 % 18446744073709551616) lB (by omega)
  have e1 : bits .xor .u64 (X : Int) (IntKind.u64.wrap ((X : Int) * 8192)) = (A : Int) := by
    rw [IntKind.wrap_u64, show ((X : Int) * 8192 % 18446744073709551616) = ((X * 8192 % 18446744073709551616 : Nat) : Int) by omega, e1]
  have e2 : bits .xor .u64 (A : Int) ((A : Int) / 128) = (B : Int) := by
    rw [show ((A : Int) / 128) = ((A / 128 : Nat) : Int) by omega, e2]
  have e3 : bits .xor .u64 (B : Int) (IntKind.u64.wrap ((B : Int) * 131072)) = (C : Int) := by
    rw [IntKind.wrap_u64, show ((B : Int) * 131072 % 18446744073709551616) = ((B * 131072 % 18446744073709551616 : Nat) : Int) by omega, e3]
  have hss : ∀ v v', (w.setCell ⟨c, 0, none⟩ v).setCell ⟨c, 0, none⟩ v' = w.setCell ⟨c, 0, none⟩ v' := setCell_setCell w c 0
  go_enter Yba.func83, Yba.ntmps83
  go_wp2
  go_region
  all_goals go_wp2
  all_goals go_region
  all_goals go_wp2
  all_goals go_region
  all_goals go_wp2
  go_ret
  exact ⟨C, lC, rfl, rfl⟩

theorem next_walk (E : Env N base rv lt S) (c : Nat) (d : Array α) (w : World) (hS : S d w) (hR : Rnd base c w) :
    Calls Yba.prog 83 #[.pointer (some ⟨c, 0, none⟩)] w fun e w' => ∃ Y : Nat, Y < 18446744073709551616 ∧ e = .returned (.int .u64 Y) ∧ Hid (S d w') ∧ Hid (Rnd base c w') := by
  obtain ⟨X, hX, hc⟩ := hR.cell
  refine (next_raw c X hX w hc hR.free).mono ?_
  rintro e w' ⟨Y, hY, rfl, rfl⟩
  refine ⟨Y, hY, rfl, ?_, ?_⟩
  · exact E.keep d _ _ (E.setAt hS (a := ⟨c, 0, none⟩) hR.lo (.int .u64 Y)) rfl rfl rfl (Nat.le_refl _) (fun _ _ => rfl)
  · exact ⟨hR.lo, by simpa using hR.hi, ⟨Y, hY, by rw [World.cell?_drewN]; exact World.cell?_setCell_same w _ _ hc⟩, by rw [World.frozen?_drewN]; simpa using hR.free⟩

set_option maxHeartbeats 1000000 in
theorem pow_walk (n : Nat) (hn : n < 4611686018427387904) (w : World) :
    Calls Yba.prog 82 #[.int .i64 n] w fun e w' => e = .returned (.int .u64 ((1 <<< bitsLen n : Nat) : Int)) ∧ w' = w := by
  have hLen : ∀ w, Calls Yba.prog 62 #[.int .u64 (n : Int)] w fun e w' => e = .returned (.int .i64 (bitsLen n : Nat)) ∧ w' = w := fun w => by
    have h := Yba.bits_Len (n : Int) w (by omega) (by omega)
    rwa [Int.toNat_natCast, bitLen_eq _ (by omega)] at h
  have hk : bitsLen n ≤ 62 := (bitsLen_le_iff n 62).2 (by omega)
  have hp := wrap_two_pow (bitsLen n) hk
  have wr : IntKind.u64.wrap (n : Int) = n := by simp [IntKind.wrap, IntKind.bits, IntKind.signed]; omega
  go_enter Yba.func82, Yba.ntmps82
  go_wp2_with (go_at_call 62; refine (hLen _).mono ?_; rintro e w' ⟨rfl, rfl⟩)
  go_ret
  exact ⟨rfl, rfl⟩

theorem and_some (Y M : Nat) (hY : Y < 18446744073709551616) (hM : 1 ≤ M) (hM2 : M < 18446744073709551616) : ∃ O : Nat, bits .and .u64 (Y : Int) ((M : Int) - 1) = (O : Int) ∧ O < M := by
  refine ⟨Y &&& (M - 1), ?_, ?_⟩
  · rw [show ((M : Int) - 1) = ((M - 1 : Nat) : Int) by omega, bits_and_u64_nat _ _ hY (by omega)]
  · have : Y &&& (M - 1) ≤ M - 1 := Nat.and_le_right
    omega

set_option maxHeartbeats 4000000 in
theorem break_walk (E : Env N base rv lt S) (a b : Nat) (d : Array α) (w : World) (hS : S d w) (hab : a ≤ b) (hb : b ≤ N) :
    Calls Yba.prog 75 #[.iface 204 rv, .int .i64 a, .int .i64 b] w fun e w' => e = .returned (.tuple #[]) ∧ ∃ d', PermIn a b d d' ∧ S d' w' := by
  have mS := E.mS; have hN := E.small
  obtain ⟨L, hL⟩ : ∃ L : Nat, L = b - a := ⟨_, rfl⟩
  have hLz : (b : Int) - (a : Int) = (L : Int) := by omega
  by_cases h8 : 8 ≤ L
  · have h8z : (8 : Int) ≤ (L : Int) := by omega
    obtain ⟨M, hM⟩ : ∃ M : Nat, M = 1 <<< bitsLen L := ⟨_, rfl⟩
    have hM1 : 1 ≤ M := by rw [hM, Nat.one_shiftLeft]; exact Nat.two_pow_pos _
    have hM2 : M ≤ 2 * L := by rw [hM, Nat.one_shiftLeft]; exact two_pow_bitsLen_le (by omega)
    have hNP : ∀ w, Calls Yba.prog 82 #[.int .i64 (L : Int)] w fun e w' => e = .returned (.int .u64 (M : Int)) ∧ w' = w := by rw [hM]; exact fun w => pow_walk L (by omega) w
    clear hM
    have wr : IntKind.u64.wrap (L : Int) = L := by simp [IntKind.wrap, IntKind.bits, IntKind.signed]; omega
    have hbL : b = a + L := by omega
    have HB : Hid (b = a + L) := hbL
    clear hL hbL
    obtain ⟨c, hc⟩ : ∃ c, w.heap.size = c := ⟨_, rfl⟩
    have HT := E.top d w hS
    have HS : Hid (S d w) := hS
    clear hS
    go_enter Yba.func75, Yba.ntmps75
    go_wp2_with (go_at_call 82; refine (hNP _).mono ?_; rintro e w' ⟨rfl, rfl⟩)
    go_loopg [9] 3 (fun g1 vi wr => ∃ (t : Nat) (dk : Array α), vi = .int .i64 ((a : Int) + (L : Int) / 4 * 2 - 1 + (t : Int)) ∧ t ≤ 3 ∧ 3 - t ≤ g1 ∧ Hid (S dk wr) ∧ Hid (Rnd base c wr) ∧ Hid (PermIn a b d dk))
    case atStart =>
      refine ⟨0, d, by simp, by omega, by omega, ?_, ?_, permIn_refl d a b⟩
      · exact E.alloc HS.out _
      · subst hc
        exact ⟨HT, by simp, ⟨L, by omega, by rw [World.cell?_alloc_at _ _ _ _ rfl]; rfl⟩, World.frozen?_alloc_at _ _ _ _ rfl⟩
    case round =>
      obtain ⟨t, dk, rfl, ht, hg1, hSk, hR, HP⟩ := hrel
      have hsz := E.size _ _ hSk.out
      have hbL1 : b ≤ a + L := Nat.le_of_eq HB.out
      have hbL2 : a + L ≤ b := Nat.le_of_eq HB.out.symm
      by_cases ht3 : t < 3
      · have hle : (a : Int) + (L : Int) / 4 * 2 - 1 + (t : Int) ≤ (a : Int) + (L : Int) / 4 * 2 + 1 := by omega
        go_upto_region 8 with (go_at_call 83; refine (next_walk E c dk _ hSk.out hR.out).mono ?_; rintro e w2 ⟨Y, hY, rfl, HS2, HR2⟩; obtain ⟨O, hO, hOM⟩ := and_some Y M hY hM1 (by omega))
        by_cases hLO : L ≤ O
        · have hLOz : (L : Int) ≤ (O : Int) := by omega
          have hs := E.swap dk w2 HS2.out (a + L / 4 * 2 - 1 + t) (a + (O - L)) (by omega) (by omega)
          rw [show ((a + L / 4 * 2 - 1 + t : Nat) : Int) = (a : Int) + (L : Int) / 4 * 2 - 1 + (t : Int) by omega, show ((a + (O - L) : Nat) : Int) = (a : Int) + ((O : Int) - (L : Int)) by omega] at hs
          go_wp2_with (go_at_call 131; refine hs.mono ?_; rintro e w3 ⟨rfl, hS3, hU3⟩)
          go_roundg (3 - (t + 1))
          case measure => omega
          case rel => exact ⟨t + 1, _, by congr 1; push_cast; omega, by omega, Nat.le_refl _, hS3, HR2.out.up hU3, permIn_swp HP.out (by omega) (by omega) (by omega) (by omega) (by omega)⟩
        · have hLOz : ¬ (L : Int) ≤ (O : Int) := by omega
          have hs := E.swap dk w2 HS2.out (a + L / 4 * 2 - 1 + t) (a + O) (by omega) (by omega)
          rw [show ((a + L / 4 * 2 - 1 + t : Nat) : Int) = (a : Int) + (L : Int) / 4 * 2 - 1 + (t : Int) by omega, show ((a + O : Nat) : Int) = (a : Int) + (O : Int) by omega] at hs
          go_wp2_with (go_at_call 131; refine hs.mono ?_; rintro e w3 ⟨rfl, hS3, hU3⟩)
          go_roundg (3 - (t + 1))
          case measure => omega
          case rel => exact ⟨t + 1, _, by congr 1; push_cast; omega, by omega, Nat.le_refl _, hS3, HR2.out.up hU3, permIn_swp HP.out (by omega) (by omega) (by omega) (by omega) (by omega)⟩
      · have ht3' : t = 3 := by omega
        have hle : ¬ ((a : Int) + (L : Int) / 4 * 2 - 1 + (t : Int) ≤ (a : Int) + (L : Int) / 4 * 2 + 1) := by omega
        go_wp2
        go_end0
        exact ⟨rfl, dk, HP.out, hSk.out⟩
  · have h8z : ¬ (8 : Int) ≤ (L : Int) := by omega
    go_enter Yba.func75, Yba.ntmps75
    go_wp2
    go_end0
    exact ⟨rfl, d, permIn_refl d a b, hS⟩

end Go.Proofs.Ybulkaixg.Srt
