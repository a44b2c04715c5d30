/-
  THE WALK of zzs1736achain (5).
-/
import Derived.Test.YbulkaixuDoorChain
namespace Go.Proofs.YbulkaixuDoor.Walk
open Go.RowKit
set_option linter.unusedVariables false
set_option linter.unusedSimpArgs false
set_option maxRecDepth 100000

set_option maxHeartbeats 800000 in
theorem chain_any (a0 : Option Addr) (n cap0 : Nat) (A : Nat → Option Addr) (L C : Nat → Nat) (w : World) (hS : Sets w a0 n A L C) (hn : n ≤ 1024) :
    Calls Ybad.prog 5 #[.slice a0 n cap0] w fun r w' => r = .returned (.tuple #[.pointer (some ⟨w.heap.size + 1, 0, none⟩), .slice (some ⟨w.heap.size, 0, none⟩) n n]) ∧
      Chain w' w.heap.size n n A L C ∧ w'.cell? ⟨w.heap.size + 1, 0, none⟩ = some (if 0 < n then .pointer (some ⟨w.heap.size, 0, none⟩) else .pointer none) ∧ w'.cell? ⟨w.heap.size + 1, 1, none⟩ = some (.pointer none) ∧ w'.frozen? ⟨w.heap.size + 1, 1, none⟩ = false ∧ w'.heap.size = w.heap.size + 2 ∧ Below w.heap.size w w' := by
  have HS := (show Hid (Sets w a0 n A L C) from hS)
  have hn' : (n : Int) ≤ 1024 := by omega
  obtain ⟨w1, hmk, f1, s1, hC1⟩ := run_make w n hn A L C
  obtain ⟨Nb, hNb⟩ : ∃ Nb, Nb = w.heap.size := ⟨_, rfl⟩
  rw [← hNb] at hmk s1 hC1 ⊢
  have HC1 := (show Hid (Chain w1 Nb n 0 A L C) from hC1)
  have HF1 := (show Hid (Fr [] w w1) from f1)
  have HNB := (show Hid (Nb = w.heap.size) from hNb)
  clear hS hC1 f1 hNb
  go_enter Ybad.func5, Ybad.ntmps5
  go_upto_block 0 with fail
  obtain ⟨w2, hw2⟩ : ∃ w2, w2 = w1.alloc (.cells #[.pointer none, .pointer none] 35) := ⟨_, rfl⟩
  rw [← hw2]
  have f2 : Fr [] w1 w2 := by rw [hw2]; exact Fr.alloc _ _
  have q0 : w2.cell? ⟨Nb + 1, 0, none⟩ = some (.pointer none) := by rw [hw2, ← s1]; simp
  have q1 : w2.cell? ⟨Nb + 1, 1, none⟩ = some (.pointer none) := by rw [hw2, ← s1]; simp
  have z0 : w2.frozen? ⟨Nb + 1, 0, none⟩ = false := by rw [hw2, ← s1]; simp
  have z1 : w2.frozen? ⟨Nb + 1, 1, none⟩ = false := by rw [hw2, ← s1]; simp
  have s2 : w2.heap.size = Nb + 2 := by rw [hw2]; simp [s1]
  have bel2 : Below Nb w w2 := by rw [HNB.out]; exact (HF1.out.trans f2).under (by simp) (Nat.le_refl _)
  have HC2 := (show Hid (Chain w2 Nb n 0 A L C) from HC1.out.keep f2 (by simp))
  have HB2 := (show Hid (Below Nb w w2) from bel2)
  clear hw2 f2 bel2 HC1 HF1 hmk s1
  go_cut [6, 14] from 15 to 48 (fun j i wx => Chain wx Nb n n A L C ∧ Fr [Nb] w2 wx ∧ wx.heap.size = Nb + 2)
  case first =>
    go_wp2_with fail
    go_loopg [6, 14] n (fun k j i wx => ∃ t : Nat, i = .int .i64 (t : Nat) ∧ k + t = n ∧ Chain wx Nb n t A L C ∧ Fr [Nb] w2 wx ∧ wx.heap.size = Nb + 2)
    case atStart =>
      exact ⟨0, rfl, by omega, HC2.out, Fr.refl _ _, s2⟩
    case round =>
      obtain ⟨t, rfl, hk, hC, fx, hsz⟩ := hrel
      have belx : Below Nb w wr := HB2.out.trans (fx.under (by simp) (by omega))
      have hSx := HS.out.below (HNB.out ▸ belx)
      have HC := (show Hid (Chain wr Nb n t A L C) from hC)
      have HFX := (show Hid (Fr [Nb] w2 wr) from fx)
      clear belx fx
      by_cases ht : t < n
      · have ht' : (t : Int) < (n : Int) := by omega
        obtain ⟨x, hx, ca⟩ := hSx t ht
        subst hx
        have sp := hC.sp
        obtain ⟨u10, c10⟩ := Option.isSome_iff_exists.1 (sp (t * 19 + 10) (by omega)).1
        obtain ⟨u14, c14⟩ := Option.isSome_iff_exists.1 (sp (t * 19 + 14) (by omega)).1
        obtain ⟨u15, c15⟩ := Option.isSome_iff_exists.1 (sp (t * 19 + 15) (by omega)).1
        have y10 := (sp (t * 19 + 10) (by omega)).2
        have y14 := (sp (t * 19 + 14) (by omega)).2
        have y15 := (sp (t * 19 + 15) (by omega)).2
        by_cases h0 : t = 0
        · have c10' : wr.cell? ⟨Nb, t * 19 + 10, none⟩ = some u10 := c10
          have hz : ¬ (0 : Int) < (t : Int) := by omega
          have HT0 := (show Hid (t = 0) from h0)
          clear hC sp hSx h0
          go_wp2
          go_roundg (gk - 1)
          case measure => omega
          case rel =>
            have h0 := HT0.out
            refine ⟨t + 1, by simp, by omega, ?_, HFX.out.trans ((Fr.set _ (by simp) _).trans (Fr.set _ (by simp) _)), by simpa using hsz⟩
            have h := HC.out
            subst h0
            simpa using h.first ht (.pointer (some ⟨Nb + 1, 0, none⟩))
        · obtain ⟨j, hj⟩ : ∃ j, t = j + 1 := ⟨t - 1, by omega⟩
          have hp : (0 : Int) < (t : Int) := by omega
          have hp' : 0 < t := by omega
          have hsub : (t : Int) - 1 = (j : Int) := by omega
          have hj1 : (j : Int) < (n : Int) := by omega
          have hj2 : j < n := by omega
          obtain ⟨u16, c16⟩ := Option.isSome_iff_exists.1 (sp (j * 19 + 16) (by omega)).1
          have y16 := (sp (j * 19 + 16) (by omega)).2
          have HJ := (show Hid (t = j + 1) from hj)
          clear hC sp hSx hj h0
          go_wp2
          go_roundg (gk - 1)
          case measure => omega
          case rel =>
            have hj := HJ.out
            refine ⟨t + 1, by simp, by omega, ?_, HFX.out.trans ((((Fr.set _ (by simp) _).trans (Fr.set _ (by simp) _)).trans (Fr.set _ (by simp) _)).trans (Fr.set _ (by simp) _)), by simpa using hsz⟩
            have h := HC.out
            subst hj
            exact h.more ht _ _
      · have ht' : ¬ (t : Int) < (n : Int) := by omega
        have hte : t = n := by omega
        have HTE := (show Hid (t = n) from hte)
        clear hte hk hC hSx
        go_wp2
        go_meet
        have h := HC.out
        rw [HTE.out] at h
        exact ⟨h, HFX.out, hsz⟩
  case rest =>
  obtain ⟨hC, f3, s3⟩ := hcut
  obtain ⟨w3, hw3⟩ : ∃ w3, w3 = wc := ⟨_, rfl⟩
  rw [← hw3] at hC f3 s3 ⊢
  have k0 := f3.cell (b := Nb + 1) (by simp) q0
  have k1 := f3.cell (b := Nb + 1) (by simp) q1
  have y0 := (f3.frozen (b := Nb + 1) (o := 0) (by simp) (by omega)).trans z0
  have y1 := (f3.frozen (b := Nb + 1) (o := 1) (by simp) (by omega)).trans z1
  have bel3 : Below Nb w w3 := HB2.out.trans (f3.under (by simp) (by omega))
  have HC3 := (show Hid (Chain w3 Nb n n A L C) from hC)
  have HB3 := (show Hid (Below Nb w w3) from bel3)
  clear hw3 hC f3 bel3 q0 q1 z0 z1 HS HC2 HB2
  by_cases h0 : n = 0
  · have hz : ¬ (0 : Int) < (n : Int) := by omega
    have HN := (show Hid (n = 0) from h0)
    clear h0
    go_wp2
    refine bodyPost_ret (by simp [results, Ybad.results5, go_sem]) rfl ⟨rfl, HC3.out, ?_, k1, y1, s3, HNB.out ▸ HB3.out⟩
    exact k0
  · have hz : (0 : Int) < (n : Int) := by omega
    have hz' : 0 < n := by omega
    clear h0
    go_wp2
    refine bodyPost_ret (by simp [results, Ybad.results5, go_sem]) rfl ⟨rfl, HC3.out.keep (Fr.set (bs := [Nb + 1]) _ (by simp) _) (by simp), ?_, ?_, by simpa using y1, by simpa using s3, (by have hh := HB3.out.setCell (p := ⟨Nb + 1, 0, none⟩) (by simp) (.pointer (some ⟨Nb, 0, none⟩)); exact hh)⟩
    · exact World.cell?_setCell_same _ _ _ k0
    · rw [cset_ne _ _ _ _ _ _ (by omega)]
      exact k1

end Go.Proofs.YbulkaixuDoor.Walk
