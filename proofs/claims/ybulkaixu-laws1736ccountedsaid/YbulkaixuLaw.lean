/-
  (*alarm).forget (6) and THE WALK OF lockwright.LawS1736CCounted (4).
-/
import Derived.Test.YbulkaixuBuild
import Derived.LaidEqlPtr
namespace Go.Proofs.Ybulkaixu.Cnt
open Go.RowKit
set_option linter.unusedVariables false
set_option linter.unusedSimpArgs false
set_option maxRecDepth 100000

theorem forget_any (A S g head cap e n : Nat) (its : List Nat) (sb : Nat → Nat) (lvf : Nat → Bool) (w : World) (hO : Ord w A g head cap its sb e) (hS : Sts w g A sb lvf n) (hits : ∀ i, i ∈ its → i < n) (he : e + 1 = ded lvf its ∨ (its = [] ∧ e + 1 = 1)) (he5 : e ≤ 4000)
    (h12 : w.cell? ⟨S, 12, none⟩ = some (.bool true)) (z12 : w.frozen? ⟨S, 12, none⟩ = false) (hAS : A < S) :
    Calls Yba.prog 6 #[.pointer (some ⟨A, 0, none⟩), .pointer (some ⟨S, 0, none⟩)] w fun r w' => r = .returned (.tuple #[]) ∧ ∃ w1, Removed A g cap its sb lvf w w1 ∧ w' = w1.setCell ⟨S, 12, none⟩ (.bool false) ∧ w1.cell? ⟨S, 12, none⟩ = some (.bool true) := by
  have hrm := remove_any A g head cap e n its sb lvf w hO hS hits he he5
  have hgA := hO.gA
  clear hO hS hits he he5
  go_enter Yba.func6, Yba.ntmps6
  go_wp2_with fail
  refine hrm.mono ?_
  rintro x w1 ⟨rfl, hR⟩
  have hf : Fr [A, g] w w1 := by
    obtain ⟨_, _, _, _, _, _, hf⟩ := hR
    exact hf
  have h12' := hf.cell (b := S) (by simp; omega) h12
  have z12' := (hf.frozen (b := S) (o := 12) (by simp; omega) (block_lt_of_cell h12)).trans z12
  have HR := (show Hid (Removed A g cap its sb lvf w w1) from hR)
  clear hrm hR hf
  go_wp2
  go_end0
  exact ⟨rfl, w1, HR.out, rfl, h12'⟩

theorem neq38 (m : Nat) (w : World) : (binOp .neq 38 (.pointer (some ⟨m, 0, none⟩)) (.pointer (some ⟨m, 0, none⟩))).run Yba.prog w = .ok (.bool false) w := by
  have hi : (Yba.prog.info? 57).isSome = true := by kernel_rfl
  obtain ⟨j, hj⟩ := Option.isSome_iff_exists.1 hi
  have hp : Yba.prog.underlying 38 = some (.pointer 57) := by kernel_rfl
  have h : ∀ d : Nat, (Op.equalIn (d + 1) 38 (.pointer (some ⟨m, 0, none⟩)) (.pointer (some ⟨m, 0, none⟩))).run Yba.prog w = .ok true w := fun d => by
    simp [Op.equalIn, run_underlying hp, sizeOf, typeInfo, hj, run_sameAddr_same]
  simp only [binOp]
  simp [Op.equal, Op.maxDepth, h 9999]

theorem filter_at {lvf : Nat → Bool} {l : List Nat} {t i : Nat} (h : l[t]? = some i) (hl : lvf i = true) : (l.filter lvf)[((l.take t).filter lvf).length]? = some i := by
  obtain ⟨hlt, he⟩ := List.getElem?_eq_some_iff.1 h
  have hs : l = l.take t ++ i :: l.drop (t + 1) := by
    have h1 := (List.take_append_drop t l).symm
    rw [List.drop_eq_getElem_cons hlt, he] at h1
    exact h1
  have h2 : l.filter lvf = (l.take t).filter lvf ++ i :: (l.drop (t + 1)).filter lvf := by
    have h3 := congrArg (List.filter lvf) hs
    rw [List.filter_append, List.filter_cons_of_pos hl] at h3
    exact h3
  rw [h2, List.getElem?_append_right (Nat.le_refl _), Nat.sub_self]
  rfl
theorem ded_take_succ {lvf : Nat → Bool} {l : List Nat} {t i : Nat} (h : l[t]? = some i) : ded lvf (l.take (t + 1)) = ded lvf (l.take t) + (if lvf i = true then 0 else 1) := by
  obtain ⟨hlt, he⟩ := List.getElem?_eq_some_iff.1 h
  rw [List.take_succ_eq_append_getElem hlt, ded_append, he]
  cases hv : lvf i <;> simp [ded, hv]

set_option maxHeartbeats 3200000 in
theorem law_counted (a0 : Option Addr) (n cap0 : Nat) (lf : Nat → Bool) (lead : Nat) (w : World) (hA : LiveS w a0 n lf) (hl : lead ≤ 255) :
    Calls Yba.prog 4 #[.slice a0 n cap0, .int .u8 (lead : Nat)] w fun r w' => r = .returned (.bool true) ∧ Below w.heap.size w w' := by
  by_cases hn : 1024 < n
  · have hn' : (1024 : Int) < n := by omega
    clear hA
    go_enter Yba.func4, Yba.ntmps4
    go_wp2
    go_ret
    exact ⟨rfl, Below.refl _ _⟩
  · have hn' : ¬ (1024 : Int) < n := by omega
    have hbld := build_any a0 n cap0 lf lead w hA (by omega) hl
    clear hA
    go_enter Yba.func4, Yba.ntmps4
    go_wp2_with fail
    refine hbld.mono ?_
    rintro x w1 ⟨A, lvv, rfl, g, h, m, cap, sb, lvf, e, hO, hS, hlv, he, he4, hm, hlvb, hg, hbel⟩
    obtain ⟨Z, hz0, _, hz9, hzs⟩ := state0
    have hgA := hO.gA
    have HO := (show Hid (Ord w1 A g h cap (List.range m) sb e) from hO)
    have HS := (show Hid (Sts w1 g A sb lvf m) from hS)
    have HLV := (show Hid (PRow w1 lvv (flv lvf m).length (fun j => .pointer (some ⟨sb ((flv lvf m).getD j 0), 0, none⟩))) from hlv)
    have HE := (show Hid (e + 1 = ded lvf (List.range m) ∨ (List.range m = [] ∧ e + 1 = 1)) from he)
    have HLB := (show Hid (∀ b, lvv.ownBlock = some b → g < b ∧ b < A) from hlvb)
    have HBL := (show Hid (Below w.heap.size w w1) from hbel)
    have lA := block_lt_of_cell hO.r0
    clear hO hS hlv he hlvb hbel hbld
    go_wp2_with fail
    obtain ⟨S, hS⟩ : ∃ S, S = w1.heap.size := ⟨_, rfl⟩
    obtain ⟨w2, hw2⟩ : ∃ w2, w2 = w1.alloc (.cells (Z.setIfInBounds 12 (.bool true)) 57) := ⟨_, rfl⟩
    rw [← hw2, ← hS]
    have f2 : Fr [] w1 w2 := by rw [hw2]; exact Fr.alloc _ _
    have h12 : w2.cell? ⟨S, 12, none⟩ = some (.bool true) := by rw [hw2, hS]; simp [hzs]
    have z12 : w2.frozen? ⟨S, 12, none⟩ = false := by rw [hw2, hS]; simp
    have hAS : A < S := by omega
    have hfg := forget_any A S g h cap e m (List.range m) sb lvf w2 (HO.out.keep f2 (by simp) (by simp)) (HS.out.keep f2 (by simp)) (by intro i hi; simpa using hi) HE.out he4 h12 z12 hAS
    have HF2 := (show Hid (Fr [] w1 w2) from f2)
    clear hw2 hS f2 hz0 hz9 hzs h12 z12
    refine hfg.mono ?_
    rintro x w4 ⟨rfl, w3, hR, hw4, r12⟩
    obtain ⟨head, its, hO3, hfil, hsub, hgood, f23⟩ := hR
    have f34 : Fr [S] w3 w4 := by rw [hw4]; exact Fr.set _ (by simp) _
    have hO4 := hO3.keep f34 (by simp; omega) (by simp; omega)
    have f14 : Fr [A, g, S] w1 w4 := (HF2.out.wide (by simp)).trans ((f23.wide (by simp)).trans (f34.wide (by simp)))
    have hS4 : Sts w4 g A sb lvf m := HS.out.keep f14 (by intro b hb; simp only [List.mem_cons, List.not_mem_nil, or_false] at hb; omega)
    have hlv4 := HLV.out.keep f14 (by intro b hb; have := HLB.out b hb; simp only [List.mem_cons, List.not_mem_nil, or_false]; omega)
    have s12 : w4.cell? ⟨S, 12, none⟩ = some (.bool false) := by rw [hw4]; exact World.cell?_setCell_same _ _ _ r12
    have bel4 : Below w.heap.size w w4 := HBL.out.trans (f14.under (by intro b hb; simp only [List.mem_cons, List.not_mem_nil, or_false] at hb; omega) (by have := HBL.out.size; omega))
    obtain ⟨la, lc, hlvs⟩ := hlv4.slice
    subst hlvs
    obtain ⟨kl, hkl⟩ : ∃ kl, kl = (flv lvf m).length := ⟨_, rfl⟩
    rw [← hkl] at hlv4 ⊢
    have hkm : kl ≤ 1024 := by have := flv_le lvf m; omega
    obtain ⟨ee, hee⟩ : ∃ ee, ee = ded lvf its := ⟨_, rfl⟩
    rw [← hee] at hO4
    obtain ⟨nn, hnn⟩ : ∃ nn, nn = its.length := ⟨_, rfl⟩
    have k0 := hO4.r0
    have k1 := hO4.r1
    have k2 := hO4.r2
    have k3 := hO4.r3
    have hcap := hO4.le
    have hcm := hO4.capm
    obtain ⟨L, hL⟩ : ∃ L, L = head + nn := ⟨_, rfl⟩
    rw [← hnn, ← hL] at k0 hcap
    have hhL : head ≤ L := by omega
    have hhL' : ¬ (L : Int) < (head : Int) := by omega
    have h0 : ¬ (head : Int) < 0 := by omega
    have HO4 := (show Hid (Ord w4 A g head cap its sb ee) from hO4)
    have HS4 := (show Hid (Sts w4 g A sb lvf m) from hS4)
    have HL4 := (show Hid (PRow w4 (.slice la kl lc) kl (fun j => .pointer (some ⟨sb ((flv lvf m).getD j 0), 0, none⟩))) from hlv4)
    have HB4 := (show Hid (Below w.heap.size w w4) from bel4)
    have HX := (show Hid (its.filter lvf = flv lvf m ∧ (∀ i, i ∈ its → i ∈ List.range m) ∧ Good lvf its ∧ ee = ded lvf its ∧ nn = its.length ∧ kl = (flv lvf m).length) from ⟨hfil, hsub, hgood, hee, hnn, hkl⟩)
    have HLL := (show Hid (L = head + nn) from hL)
    clear hfg hw4 hO3 hfil hsub hgood f23 f34 hO4 f14 hS4 hlv4 bel4 hee hnn hkl hL HO HS HLV HLB HBL HF2 HE r12
    go_upto_region 9 with fail
    go_cut [58] from 34 to 58 (fun t wx => t = .bool false ∧ Fr [] w4 wx)
    case first =>
      go_quiet (fail)
      go_wp2
      go_meet
      refine ⟨?_, Fr.drewN _ _⟩
      congr 1
      simp
      omega
    case rest =>
    obtain ⟨rfl, f5⟩ := hcut
    obtain ⟨w5, hw5⟩ : ∃ w5, w5 = wc := ⟨_, rfl⟩
    rw [← hw5] at f5 ⊢
    have HF5 := (show Hid (Fr [] w4 w5) from f5)
    have k0 := f5.cell (by simp) k0
    have k1 := f5.cell (by simp) k1
    have k2 := f5.cell (by simp) k2
    have k3 := f5.cell (by simp) k3
    clear f5 hw5
    go_upto_block 0 with fail
    go_cut [9, 10, 11, 12] from 63 to 103 (fun d k i p wx => d = .int .i64 (ee : Nat) ∧ k = .int .i64 (kl : Nat) ∧ Fr [] w4 wx)
    case first =>
      go_wp2_with fail
      go_loopg [9, 10, 11, 12] nn (fun c d k i p wx => ∃ t ii kk dd : Nat, i = .int .i64 (ii : Nat) ∧ c + t = nn ∧ k = .int .i64 (kk : Nat) ∧ d = .int .i64 (dd : Nat) ∧ ii = head + t ∧ kk = ((its.take t).filter lvf).length ∧ dd = ded lvf (its.take t) ∧ Fr [] w4 wx)
      case atStart =>
        exact ⟨0, head, 0, 0, rfl, by omega, rfl, rfl, by omega, by simp, by simp [ded], HF5.out⟩
      case round =>
        obtain ⟨t, ii, kk, dd, rfl, hk, rfl, rfl, hii, hkk, hdd, fx⟩ := hrel
        obtain ⟨hfil, hsub, hgood, hee, hnn, hkl⟩ := HX.out
        have hkk1 : kk ≤ t := by rw [hkk]; exact filter_take_le lvf its t
        have hdd1 : dd ≤ t := by
          rw [hdd]
          have h1 := List.length_filter_le (fun i => !lvf i) (its.take t)
          have h2 := List.length_take_le t its
          unfold ded
          omega
        have hLL := HLL.out
        have hOx := HO4.out.keep fx (by simp) (by simp)
        have k0 := hOx.r0
        rw [← hnn, ← hLL] at k0
        have htn3 : t ≤ 3000 := by omega
        have hdd3 : dd ≤ 3000 := by omega
        have HKK := (show Hid (kk = ((its.take t).filter lvf).length ∧ dd = ded lvf (its.take t)) from ⟨hkk, hdd⟩)
        have HFX := (show Hid (Fr [] w4 wr) from fx)
        have HII := (show Hid (ii = head + t) from hii)
        by_cases ht : t < nn
        · obtain ⟨x, hx⟩ : ∃ x, its[t]? = some x := ⟨_, List.getElem?_eq_getElem (by omega)⟩
          have hxm : x < m := by simpa using hsub x (List.mem_of_getElem? hx)
          have hlt : (ii : Int) < (L : Int) := by omega
          have hlt' : ii < L := by omega
          have c3 : wr.cell? ⟨g, ii * 5 + 3, none⟩ = some (.int .u64 ((x + 1 : Nat) : Int)) := by rw [hii]; exact hOx.it t x hx 3 (by omega)
          have c4 : wr.cell? ⟨g, ii * 5 + 4, none⟩ = some (.pointer (some ⟨sb x, 0, none⟩)) := by rw [hii]; exact hOx.it t x hx 4 (by omega)
          have hlv := live_any g (ii * 5) (sb x) _ (lvf x) wr c3 c4 ((HS4.out.keep fx (by simp)).sta hxm)
          have HX2 := (show Hid (its[t]? = some x) from hx)
          have hds := ded_take_succ (lvf := lvf) hx
          by_cases hv : lvf x = true
          · have hat := filter_at hx hv
            rw [hfil, ← hkk] at hat
            have hkl2 : kk < kl := by rw [hkl]; exact (List.getElem?_eq_some_iff.1 hat).1
            have hkl3 : (kk : Int) < (kl : Int) := by omega
            have hgd : (flv lvf m).getD kk 0 = x := by rw [List.getD_eq_getElem?_getD, hat]; rfl
            have hrow := HL4.out.keep fx (by simp)
            rw [hv] at hlv
            rw [if_pos hv] at hds
            obtain ⟨b, lcap, hbe, hbl, hcp, hcm2, hcl, _⟩ : ∃ b cap, Value.slice la kl lc = .slice (some ⟨b, 0, none⟩) kl cap ∧ b < wr.heap.size ∧ kl ≤ cap ∧ cap ≤ maxLen ∧ (∀ j, j < kl → wr.cell? ⟨b, j, none⟩ = some (.pointer (some ⟨sb ((flv lvf m).getD j 0), 0, none⟩))) ∧ ∀ j, j < cap → (wr.cell? ⟨b, j, none⟩).isSome = true ∧ wr.frozen? ⟨b, j, none⟩ = false := by
              rcases hrow with ⟨_, h⟩ | h
              · omega
              · exact h
            obtain ⟨e1, _, e3⟩ := Value.slice.inj hbe
            subst e1 e3
            have cl := hcl kk hkl2
            rw [hgd] at cl
            have hyes := take_filter_yes hx hv
            have HY := (show Hid ((its.take (t + 1)).filter lvf = (its.take t).filter lvf ++ [x] ∧ ded lvf (its.take (t + 1)) = ded lvf (its.take t) + 0) from ⟨hyes, hds⟩)
            have heq := neq38 (sb x)
            clear hrow hbe hcl hat hgd hyes hds hx hkk hdd hfil hsub hgood hee hkl HL4 HX hii fx hOx hLL hbl hcp hcm2
            go_upto_region 19 with fail
            go_wp2_with fail
            refine hlv.mono ?_
            rintro y w7 ⟨rfl, nq, hw7⟩
            have f7 : Fr [] wr w7 := by rw [hw7]; exact Fr.drewN _ _
            have cl := f7.cell (by simp) cl
            have c4 := f7.cell (by simp) c4
            have HF7 := (show Hid (Fr [] wr w7) from f7)
            clear hw7 f7 hlv
            go_upto_region 20 with fail
            go_quiet (fail)
            go_wp2
            go_roundg (gk - 1)
            case measure => omega
            case rel =>
              obtain ⟨y1, y2⟩ := HY.out
              obtain ⟨z1, z2⟩ := HKK.out
              refine ⟨t + 1, ii + 1, kk + 1, dd, by simp, by omega, by simp, rfl, by have := HII.out; omega, by rw [y1, List.length_append, ← z1]; rfl, by rw [y2, ← z2, Nat.add_zero], (HFX.out.trans HF7.out).trans (Fr.drewN _ _)⟩
          · have hvf : lvf x = false := by simpa using hv
            rw [hvf] at hlv
            rw [if_neg hv] at hds
            have hno := take_filter_no hx hvf
            have HY := (show Hid ((its.take (t + 1)).filter lvf = (its.take t).filter lvf ∧ ded lvf (its.take (t + 1)) = ded lvf (its.take t) + 1) from ⟨hno, hds⟩)
            clear hno hds hx hkk hdd hfil hsub hgood hee hkl HL4 HX hii fx hOx hLL hv hvf
            go_upto_region 19 with fail
            go_wp2_with fail
            refine hlv.mono ?_
            rintro y w7 ⟨rfl, nq, hw7⟩
            have f7 : Fr [] wr w7 := by rw [hw7]; exact Fr.drewN _ _
            have HF7 := (show Hid (Fr [] wr w7) from f7)
            clear hw7 f7 hlv
            go_wp2
            go_roundg (gk - 1)
            case measure => omega
            case rel =>
              obtain ⟨y1, y2⟩ := HY.out
              obtain ⟨z1, z2⟩ := HKK.out
              exact ⟨t + 1, ii + 1, kk, dd + 1, by simp, by omega, rfl, by simp, by have := HII.out; omega, by rw [y1, ← z1], by rw [y2, ← z2], HFX.out.trans HF7.out⟩
        · have hlt : ¬ (ii : Int) < (L : Int) := by omega
          have hlt' : L ≤ ii := by omega
          have htn : t = nn := by omega
          have hkf : kk = kl := by rw [hkk, htn, hnn, List.take_length, hfil, hkl]
          have hdf : dd = ee := by rw [hdd, htn, hnn, List.take_length, hee]
          have HKF := (show Hid (kk = kl ∧ dd = ee) from ⟨hkf, hdf⟩)
          clear hkf hdf htn hkk hdd hfil hsub hgood hee hkl HX hii fx hOx hLL hnn hk ht
          go_wp2
          go_meet
          exact ⟨by rw [HKF.out.2], by rw [HKF.out.1], HFX.out⟩
    case rest =>
    obtain ⟨rfl, rfl, f6⟩ := hcut
    obtain ⟨w6, hw6⟩ : ∃ w6, w6 = wc := ⟨_, rfl⟩
    rw [← hw6] at f6 ⊢
    have k0 := (HO4.out.keep f6 (by simp) (by simp)).r0
    rw [show head + its.length = L by have h1 := HLL.out; have h2 := HX.out.2.2.2.2.1; omega] at k0
    have k1 := (HO4.out.keep f6 (by simp) (by simp)).r1
    have k3 := (HO4.out.keep f6 (by simp) (by simp)).r3
    have bel6 : Below w.heap.size w w6 := HB4.out.trans (f6.under (by simp) (by have := HB4.out.size; omega))
    have HB6 := (show Hid (Below w.heap.size w w6) from bel6)
    have HF6 := (show Hid (Fr [] w4 w6) from f6)
    clear hw6 f6 bel6
    go_upto_region 26 with fail
    go_cut [138] from 116 to 138 (fun t wx => t = .bool false ∧ Fr [] w6 wx)
    case first =>
      obtain ⟨hfil, hsub, hgood, hee, hnn, hkl⟩ := HX.out
      have hLL := HLL.out
      rcases hgood with hg0 | ⟨x, r, hxr, hv⟩
      · have hLh : L = head := by rw [hLL, hnn, hg0]; rfl
        clear hfil hsub hee hnn hkl hLL hg0 HX HLL HO4 HS4 HL4
        subst hLh
        go_quiet (fail)
        go_wp2
        go_meet
        exact ⟨rfl, Fr.drewN _ _⟩
      · have hlt : (head : Int) < (L : Int) := by rw [hLL, hnn, hxr]; simp; omega
        have hlt' : head < L := by omega
        have hOx := HO4.out.keep HF6.out (by simp) (by simp)
        have hxm : x < m := by simpa using hsub x (by rw [hxr]; exact List.mem_cons_self)
        have c3 : w6.cell? ⟨g, head * 5 + 3, none⟩ = some (.int .u64 ((x + 1 : Nat) : Int)) := hOx.it 0 x (by rw [hxr]; rfl) 3 (by omega)
        have c4 : w6.cell? ⟨g, head * 5 + 4, none⟩ = some (.pointer (some ⟨sb x, 0, none⟩)) := hOx.it 0 x (by rw [hxr]; rfl) 4 (by omega)
        have hsta := (HS4.out.keep HF6.out (by simp)).sta hxm
        rw [hv] at hsta
        have hlv : ∀ nq, Calls Yba.prog 7 #[.pointer (some ⟨g, head * 5, none⟩)] (w6.drewN nq) fun e w' => e = .returned (.bool true) ∧ ∃ n, w' = (w6.drewN nq).drewN n := fun nq => live_any g (head * 5) (sb x) _ true (w6.drewN nq) c3 c4 hsta
        have HLV := (show Hid (∀ nq, Calls Yba.prog 7 #[.pointer (some ⟨g, head * 5, none⟩)] (w6.drewN nq) fun e w' => e = .returned (.bool true) ∧ ∃ n, w' = (w6.drewN nq).drewN n) from hlv)
        clear hfil hsub hee hnn hkl hLL hxr hv hOx c3 c4 hsta hlv
        go_region_held3 (fun w' => w'.cell? ⟨A, 0, none⟩ = some (.slice (some ⟨g, 0, none⟩) L cap) ∧ w'.cell? ⟨A, 1, none⟩ = some (.int .i64 (head : Nat))) (refine ⟨?_, ?_⟩ <;> first | assumption | exact k0 | exact k1)
          (first
            | (go_at_call 7; refine (HLV.out 1).mono ?_; rintro e w' ⟨rfl, nq, rfl⟩))
        go_wp2
        go_meet
        exact ⟨rfl, Fr.drewN _ _⟩
    case rest =>
    obtain ⟨rfl, f7⟩ := hcut
    have bel7 : Below w.heap.size w wc := HB6.out.trans (f7.under (by simp) (by have := HB6.out.size; omega))
    have HB7 := (show Hid (Below w.heap.size w wc) from bel7)
    clear f7 bel7
    go_wp2
    go_ret
    exact ⟨rfl, HB7.out⟩

end Go.Proofs.Ybulkaixu.Cnt
