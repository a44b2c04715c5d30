/-
  THE WALK OF lockwright.LawS1736AWalk (3).
-/
import Derived.Test.YbulkaixuDoorHold
import Derived.Test.YbulkaixuDoorChained
import Derived.LaidEqlPtr
namespace Go.Proofs.YbulkaixuDoor.Walk
open Go.RowKit
set_option linter.unusedVariables false
set_option linter.unusedSimpArgs false
set_option maxRecDepth 100000

theorem neq33 (a : Addr) (w : World) : (binOp .neq 33 (.pointer (some a)) (.pointer (some a))).run Ybad.prog w = .ok (.bool false) w := by
  have hi : (Ybad.prog.info? 63).isSome = true := by kernel_rfl
  obtain ⟨j, hj⟩ := Option.isSome_iff_exists.1 hi
  have hp : Ybad.prog.underlying 33 = some (.pointer 63) := by kernel_rfl
  have h : ∀ d : Nat, (Op.equalIn (d + 1) 33 (.pointer (some a)) (.pointer (some a))).run Ybad.prog w = .ok true w := fun d => by
    simp [Op.equalIn, run_underlying hp, sizeOf, typeInfo, hj, run_sameAddr_same]
  simp only [binOp]
  simp [Op.equal, Op.maxDepth, h 9999]

theorem flv_at {mt : Nat → Bool} {t : Nat} (h : mt t = true) : ∀ n, t < n → (flv mt n)[(flv mt t).length]? = some t
  | 0, hn => by omega
  | n + 1, hn => by
    by_cases e : t = n
    · subst e
      rw [flv_yes h, List.getElem?_append_right (Nat.le_refl _), Nat.sub_self]
      rfl
    · have ih := flv_at h n (by omega)
      cases hv : mt n with
      | true =>
        rw [flv_yes hv, List.getElem?_append_left (List.getElem?_eq_some_iff.1 ih).1]
        exact ih
      | false =>
        rw [flv_no hv]
        exact ih

theorem thin1 {w1 : World} {Q : Nat} (s1 : w1.heap.size = Q + 1) {u : Value} (k1 : w1.cell? ⟨Q, 1, none⟩ = some u) :
    Thin ((w1.setCell ⟨Q, 1, none⟩ (.pointer (some ⟨Q + 1, 0, none⟩))).alloc (.cells #[.map none, .pointer none] 32)) Q := by
  refine Or.inr ⟨Q + 1, ?_, ?_⟩
  · rw [World.cell?_alloc_past _ _ _ (by simp; omega)]
    exact World.cell?_setCell_same _ _ _ k1
  · rw [World.cell?_alloc_at _ _ _ _ (by simp; omega)]
    rfl

def ix0 : Array Value := #[.map none, .int .i64 0, .slice none 0 0, .int .i64 0, .slice none 0 0, .int .i64 0, .slice none 0 0, .int .i64 0, .slice none 0 0, .int .i64 0, .slice none 0 0, .int .i64 0, .slice none 0 0, .int .i64 0, .slice none 0 0, .int .i64 0, .slice none 0 0, .int .i64 0, .int .u64 0, .slice none 0 0, .pointer none, .slice none 0 0]

theorem ix0_words : ∀ k, k < 8 → ix0[2 + k * 2 + 1]? = some (.int .i64 0) := by
  intro k hk
  match k, hk with
  | 0, _ => rfl
  | 1, _ => rfl
  | 2, _ => rfl
  | 3, _ => rfl
  | 4, _ => rfl
  | 5, _ => rfl
  | 6, _ => rfl
  | 7, _ => rfl

theorem thick1 {w1 : World} {Q : Nat} (s1 : w1.heap.size = Q + 1) {u : Value} (k1 : w1.cell? ⟨Q, 1, none⟩ = some u) :
    Thick (((w1.setCell ⟨Q, 1, none⟩ (.pointer (some ⟨Q + 1 + 1, 0, none⟩))).alloc (.cells ix0 45)).alloc (.cells #[.map none, .pointer (some ⟨Q + 1, 0, none⟩)] 32)) Q (Q + 1 + 1) (Q + 1) := by
  refine ⟨?_, ?_, ?_, fun k hk => ?_⟩
  · rw [World.cell?_alloc_past _ _ _ (by simp; omega), World.cell?_alloc_past _ _ _ (by simp; omega)]
    exact World.cell?_setCell_same _ _ _ k1
  · rw [World.cell?_alloc_at _ _ _ _ (by simp; omega)]
    rfl
  · rw [World.cell?_alloc_past _ _ _ (by simp; omega), World.cell?_alloc_at _ _ _ _ (by simp; omega)]
    rfl
  · rw [World.cell?_alloc_past _ _ _ (by simp; omega), World.cell?_alloc_at _ _ _ _ (by simp; omega)]
    exact ix0_words k hk

set_option maxHeartbeats 1600000 in
theorem law_walk (a0 : Option Addr) (n c0 : Nat) (A : Nat → Option Addr) (L C : Nat → Nat) (fw : Nat → Nat → Int) (b0 : Option Addr) (m cb : Nat) (g : Nat → Nat) (mode : Nat) (w : World) (hS : Sets w a0 n A L C)
    (hsets : ∀ i, i < n → WordS w (A i) (L i) (fw i) ∧ L i ≤ maxLen) (hset : WordB w w.heap.size b0 m g) (hT : Tab w) (hmode : mode ≤ 255) :
    Calls Ybad.prog 3 #[.slice a0 n c0, .slice b0 m cb, .int .u8 (mode : Nat)] w fun r w' => r = .returned (.bool true) ∧ Below w.heap.size w w' := by
  by_cases hn : 1024 < n
  · have hn' : (1024 : Int) < n := by omega
    clear hS hsets hset hT
    go_enter Ybad.func3, Ybad.ntmps3
    go_wp2
    go_ret
    exact ⟨rfl, Below.refl _ _⟩
  have hn' : ¬ (1024 : Int) < n := by omega
  by_cases hm : 1024 < m
  · have hm' : (1024 : Int) < m := by omega
    clear hS hsets hset hT
    go_enter Ybad.func3, Ybad.ntmps3
    go_wp2
    go_ret
    exact ⟨rfl, Below.refl _ _⟩
  have hm' : ¬ (1024 : Int) < m := by omega
  have hch := chain_any a0 n c0 A L C w hS (by omega)
  have HSE := (show Hid (Sets w a0 n A L C) from hS)
  have HSS := (show Hid (∀ i, i < n → WordS w (A i) (L i) (fw i) ∧ L i ≤ maxLen) from hsets)
  have HS := (show Hid (WordB w w.heap.size b0 m g) from hset)
  have HT := (show Hid (Tab w) from hT)
  obtain ⟨Nb, hNb⟩ : ∃ Nb, Nb = w.heap.size := ⟨_, rfl⟩
  rw [← hNb] at hch
  have HNB := (show Hid (Nb = w.heap.size) from hNb)
  clear hS hsets hset hT hNb
  go_enter Ybad.func3, Ybad.ntmps3
  go_wp2_with fail
  refine hch.mono ?_
  rintro e w1 ⟨rfl, hC1, k0, k1, z1, s1, bel1⟩
  have HC1 := (show Hid (Chain w1 Nb n n A L C) from hC1)
  have HB1 := (show Hid (Below Nb w w1) from bel1)
  have HK0 := (show Hid (w1.cell? ⟨Nb + 1, 0, none⟩ = some (if 0 < n then .pointer (some ⟨Nb, 0, none⟩) else .pointer none)) from k0)
  clear hch hC1 bel1 k0
  go_upto_block 0 with fail
  go_cut [27, 34] from 25 to 42 (fun s t wx => (Thin wx (Nb + 1) ∨ ∃ I X, Thick wx (Nb + 1) I X) ∧ Fr [Nb + 1] w1 wx ∧ wx.cell? ⟨Nb + 1, 0, none⟩ = w1.cell? ⟨Nb + 1, 0, none⟩)
  case first =>
    have hsz : Nb + 1 < w1.heap.size := by omega
    have hr : mode % 3 = 0 ∨ mode % 3 = 1 ∨ mode % 3 = 2 := by omega
    rcases hr with hr | hr | hr
    · have hri : (mode : Int) % 3 = 0 := by omega
      go_wp2
      go_meet
      exact ⟨Or.inl (Or.inl k1), Fr.refl _ _, rfl⟩
    · have hri : (mode : Int) % 3 = 1 := by omega
      go_wp2
      go_meet
      exact ⟨Or.inl (thin1 (by omega) k1), (Fr.set _ (by simp) _).trans (Fr.alloc _ _), by rw [World.cell?_alloc_past _ _ _ (by simp; omega), cset_ne _ _ _ _ _ _ (by omega)]⟩
    · have hri : (mode : Int) % 3 = 2 := by omega
      go_wp2
      go_meet
      exact ⟨Or.inr ⟨_, _, thick1 (by omega) k1⟩, ((Fr.set _ (by simp) _).trans (Fr.alloc _ _)).trans (Fr.alloc _ _), by rw [World.cell?_alloc_past _ _ _ (by simp; omega), World.cell?_alloc_past _ _ _ (by simp; omega), cset_ne _ _ _ _ _ _ (by omega)]⟩
  case rest =>
  obtain ⟨hM, f2, e2⟩ := hcut
  obtain ⟨w2, hw2⟩ : ∃ w2, w2 = wc := ⟨_, rfl⟩
  rw [← hw2] at hM f2 e2 ⊢
  have hNW := HNB.out
  have bel2 : Below w.heap.size w w2 := by rw [← hNW]; exact HB1.out.trans (f2.under (by simp) (by omega))
  have hC2 : Chain w2 Nb n n A L C := HC1.out.keep f2 (by simp)
  have hS2 : WordB w2 w2.heap.size b0 m g := fun i hi => by
    obtain ⟨h1, x, e, hx, hc⟩ := HS.out i hi
    exact ⟨h1, x, e, Nat.lt_of_lt_of_le hx bel2.size, (bel2.cell (p := x.add i) (by rw [add_block]; exact hx)).trans hc⟩
  have hss2 : ∀ i, i < n → WordS w2 (A i) (L i) (fw i) ∧ L i ≤ maxLen := fun i hi => ⟨(HSS.out i hi).1.below bel2, (HSS.out i hi).2⟩
  have hho := holders_any (Nb + 1) Nb n A L C fw b0 m cb g w2 hC2 (by rw [e2]; exact HK0.out) hM (by omega) (by omega) hss2 hS2 (HT.out.keep bel2)
  have HB2 := (show Hid (Below w.heap.size w w2) from bel2)
  clear hw2 hM f2 e2 bel2 hC2 hS2 hss2 hNW HC1 HB1 HK0
  obtain ⟨mt, hmt⟩ : ∃ mt, mt = mtf L m fw (fun i => (g i : Int)) := ⟨_, rfl⟩
  rw [← hmt] at hho
  have HMT := (show Hid (mt = mtf L m fw (fun i => (g i : Int))) from hmt)
  clear hmt
  go_wp2_with fail
  refine hho.mono ?_
  rintro e w3 ⟨v, rfl, hH, hB3⟩
  have bel3 : Below w.heap.size w w3 := HB2.out.trans (hB3.mono HB2.out.size)
  have HB3 := (show Hid (Below w.heap.size w w3) from bel3)
  have HH := (show Hid (Held Nb n mt w3 v) from hH)
  obtain ⟨la, lc, hvs⟩ := PRow.slice hH
  subst hvs
  obtain ⟨kl, hkl⟩ : ∃ kl, kl = (flv mt n).length := ⟨_, rfl⟩
  rw [← hkl]
  have hkl1 : kl ≤ 1024 := by have := flv_le mt n; omega
  have HKL := (show Hid (kl = (flv mt n).length) from hkl)
  clear hho hH hB3 bel3 hkl
  go_upto_block 1 with fail
  go_cut [10, 11, 48] from 49 to 73 (fun k i c wx => k = .int .i64 (kl : Nat) ∧ Below w.heap.size w wx)
  case first =>
    go_wp2_with fail
    go_loopg [10, 11, 48] n (fun c k i j wx => ∃ t kk : Nat, j = .int .i64 (t : Nat) ∧ c + t = n ∧ k = .int .i64 (kk : Nat) ∧ kk = (flv mt t).length ∧ Fr [] w3 wx)
    case atStart =>
      exact ⟨0, 0, rfl, by omega, rfl, rfl, Fr.refl _ _⟩
    case round =>
      obtain ⟨t, kk, rfl, hk, rfl, hkk, fx⟩ := hrel
      have HKK := (show Hid (kk = (flv mt t).length) from hkk)
      have HFX := (show Hid (Fr [] w3 wr) from fx)
      have hkk1 : kk ≤ t := by rw [hkk]; exact flv_le mt t
      have belx : Below w.heap.size w wr := HB3.out.trans (fx.under (by simp) (by have := HB3.out.size; omega))
      have HBX := (show Hid (Below w.heap.size w wr) from belx)
      clear hkk
      by_cases ht : t < n
      · have ht' : (t : Int) < (n : Int) := by omega
        obtain ⟨x, hx, cx⟩ := (HSE.out.below belx) t ht
        subst hx
        obtain ⟨hws, hLm⟩ := HSS.out t ht
        have hwb : WordS wr b0 m (fun i => (g i : Int)) := fun i hi => by
          obtain ⟨h1, x, e, hx, hc⟩ := HS.out i hi
          exact ⟨x, e, (belx.cell (p := x.add i) (by rw [add_block]; exact hx)).trans hc⟩
        have hmc := ameets_any (A t) b0 (L t) m (C t) cb (fw t) (fun i => (g i : Int)) wr (hws.below belx) hwb hLm (by omega)
        have hmte : meetU (fw t) (fun i => (g i : Int)) (Nat.min (L t) m) = mt t := by rw [HMT.out]; rfl
        rw [hmte] at hmc
        clear hws hwb hmte belx fx
        go_wp2_with fail
        refine hmc.mono ?_
        rintro e w4 ⟨rfl, f4⟩
        have HF4 := (show Hid (Fr [] wr w4) from f4)
        clear hmc f4 cx
        by_cases hv : mt t = true
        · rw [hv]
          have hat := flv_at hv n ht
          rw [← HKK.out] at hat
          have hkl2 : kk < kl := by rw [HKL.out]; exact (List.getElem?_eq_some_iff.1 hat).1
          have hkl3 : (kk : Int) < (kl : Int) := by omega
          have hgd : (flv mt n).getD kk 0 = t := by rw [List.getD_eq_getElem?_getD, hat]; rfl
          have hrow := (PRow.keep HH.out HFX.out (by simp)).keep HF4.out (by simp)
          rw [← HKL.out] at hrow
          obtain ⟨b, lcap, hbe, hbl, hcp, hcm2, hcl, _⟩ : ∃ b cap, Value.slice la kl lc = .slice (some ⟨b, 0, none⟩) kl cap ∧ b < w4.heap.size ∧ kl ≤ cap ∧ cap ≤ maxLen ∧ (∀ j, j < kl → w4.cell? ⟨b, j, none⟩ = some (.pointer (some ⟨Nb, (flv mt n).getD j 0 * 19, none⟩))) ∧ ∀ j, j < cap → (w4.cell? ⟨b, j, none⟩).isSome = true ∧ w4.frozen? ⟨b, j, none⟩ = false := by
            rcases hrow with ⟨_, h⟩ | h
            · omega
            · exact h
          obtain ⟨e1, _, e3⟩ := Value.slice.inj hbe
          subst e1 e3
          have cl := hcl kk hkl2
          rw [hgd] at cl
          have heq := neq33 ⟨Nb, t * 19, none⟩
          have HVV := (show Hid (mt t = true) from hv)
          clear hrow hbe hcl hat hgd hv hbl hcp hcm2 HH
          go_upto_region 15 with fail
          go_quiet (fail)
          go_wp2
          go_roundg (gk - 1)
          case measure => omega
          case rel =>
            refine ⟨t + 1, kk + 1, by simp, by omega, by simp, ?_, (HFX.out.trans HF4.out).trans (Fr.drewN _ _)⟩
            rw [flv_yes HVV.out, List.length_append, ← HKK.out]
            rfl
        · have hvf : mt t = false := by simpa using hv
          rw [hvf]
          have HVV := (show Hid (mt t = false) from hvf)
          clear hv hvf
          go_wp2
          go_roundg (gk - 1)
          case measure => omega
          case rel =>
            refine ⟨t + 1, kk, by simp, by omega, rfl, ?_, HFX.out.trans HF4.out⟩
            rw [flv_no HVV.out, ← HKK.out]
      · have ht' : ¬ (t : Int) < (n : Int) := by omega
        have htn : t = n := by omega
        have hkf : kk = kl := by rw [HKK.out, HKL.out, htn]
        have HKF := (show Hid (kk = kl) from hkf)
        clear hkf htn hk fx belx
        go_wp2
        go_meet
        exact ⟨by rw [HKF.out], HBX.out⟩
  case rest =>
  obtain ⟨rfl, hB4⟩ := hcut
  have HB4 := (show Hid (Below w.heap.size w wc) from hB4)
  clear hB4
  go_wp2
  go_ret
  exact ⟨rfl, HB4.out⟩

end Go.Proofs.YbulkaixuDoor.Walk
