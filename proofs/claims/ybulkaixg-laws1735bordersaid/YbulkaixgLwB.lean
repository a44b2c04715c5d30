/-
  LawS1735BOrder (5).
-/
import Derived.Test.YbulkaixgLwC
namespace Go.Proofs.Ybulkaixg.Ord
open Go.RowKit Go.Maps Go.WideMaps Mp
set_option linter.unusedVariables false
set_option linter.unusedSimpArgs false
set_option maxRecDepth 100000

set_option maxHeartbeats 8000000 in
theorem law_order (a0 : Option Addr) (n c0 : Nat) (Kf : Nat → ByteArray) (a1 : Option Addr) (n1 c1 : Nat) (ms : Nat → Nat) (W : World) (hk : KeyS W a0 n Kf) (hm : ByS W a1 n1 ms) :
    Calls Yba.prog 5 #[.slice a0 n c0, .slice a1 n1 c1] W fun e w' => e = .returned (.bool true) ∧ Below W.heap.size W w' := by
  have HK : Hid (KeyS W a0 n Kf) := hk
  have HM : Hid (ByS W a1 n1 ms) := hm
  clear hk hm
  by_cases hn : n ≤ 1024
  · have hnz : ¬ ((1024 : Int) < (n : Int)) := by omega
    obtain ⟨M, hM⟩ : ∃ M, W.heap.size = M := ⟨_, rfl⟩
    obtain ⟨Z, hbuild, hzs, z6, z7⟩ := built109 M
    obtain ⟨Zr, hmk, hzr⟩ := mk103 n (by omega)
    have HZR : Hid (∀ j, j < n → Zr[j]? = some (.pointer none)) := hzr
    clear hzr
    have hmm := @run_makeMap Yba.prog
    have HB : Hid (∀ w, (Instr.build 109 #[(1, .map (some M))]).run Yba.prog w = .ok (.agg Z) w) := hbuild
    clear hbuild
    go_enter Yba.func5, Yba.ntmps5
    go_upto_region 4 with fail
    iterate 4 go_step
    refine wpList_build rfl 109 _ (.agg Z) rfl ?_ ?_
    · simp only [List.map_toArray, List.map_cons, List.map_nil, Act.eval]
      exact HB.out _
    clear HB
    go_upto_region 6 with fail
    obtain ⟨md, hmd⟩ : ∃ md : Nat → Nat, md = modeF n1 ms := ⟨_, rfl⟩
    have HMD : Hid (md = modeF n1 ms) := hmd
    clear hmd
    have HT : Hid (∃ hb vb D, T1 W (((W.alloc (.map #[] 0)).alloc (.cells Z 109)).alloc (.cells Zr 131)) n M (M + 1) (M + 1 + 1) hb vb Kf md D 0 0) := ⟨fun _ => 0, fun _ => 0, _, T1.start W Z Zr n M Kf md _ _ hM z6 z7 HZR.out⟩
    clear HZR z6 z7 hzs hmk hmm hM
    generalize ((W.alloc (.map #[] 0)).alloc (.cells Z 109)).alloc (.cells Zr 131) = w1 at *
    generalize M + 1 + 1 = B at *
    generalize M + 1 = R at *
    go_upto_block 0 with fail
    go_cut [8] from 9 to 94 (fun s8 wx => ∃ (hb vb : Nat → Nat) (D : DataW Unit), Hid (T1 W wx n M R B hb vb Kf md D n n))
    case first =>
      obtain ⟨hb0, vb0, D0, HT0⟩ := HT.out
      go_wp2_with fail
      go_loopw [8] (fun v wr => ∃ (i : Nat) (hb vb : Nat → Nat) (D : DataW Unit), v = .int .i64 i ∧ i ≤ n ∧ Hid (T1 W wr n M R B hb vb Kf md D i i)) (fun v _ => n + 1 - (intOf v).toNat)
      case atStart => exact ⟨0, _, _, _, rfl, Nat.zero_le _, HT0⟩
      case round =>
        clear HT HT0
        obtain ⟨i, hb, vb, D, rfl, hi, HT⟩ := hrel
        by_cases hlt : i < n
        · have hltz : (i : Int) < (n : Int) := by omega
          obtain ⟨x, hx, hc, hl⟩ := (HK.out.keep HT.out.kp (fun _ _ => id)) i hlt
          subst hx
          have hB := HT.out.bf i
          obtain ⟨vB, cB⟩ := HT.out.ex i hlt
          have lB := HT.out.lw
          obtain ⟨H, hH⟩ : ∃ H, wr.heap.size = H := ⟨_, rfl⟩
          have nB : B < H := by omega
          obtain ⟨T, hT⟩ : ∃ T, T = ttF i := ⟨_, rfl⟩
          have HTT : Hid (T = ttF i) := hT
          clear hT
          go_upto_if 56 with fail
          go_cut [] from 54 to 60 (fun wx => wx = wr.alloc (.cells #[.string (Kf i), .int .u64 0, .string ⟨#[]⟩, .int .u64 0, .string ⟨#[]⟩, .bool false, .slice none 0 0, .bool false, .int .i64 T, .slice none 0 0, .int .u64 0, .string ⟨#[]⟩, .int .u64 0, .string ⟨#[]⟩, .bool false, .slice none 0 0, .int .i64 0, .int .u64 ((i : Int) + 1), .pointer none, .int .u64 0, .bool false] 140))
          case first =>
            by_cases hodd : i % 2 = 1
            · have hoddz : (i : Int) % 2 = 1 := by omega
              have e := HTT.out
              unfold ttF at e
              rw [if_pos hodd] at e
              subst e
              go_wp2
              go_meet
              rfl
            · have hoddz : ¬ (i : Int) % 2 = 1 := by omega
              have e := HTT.out
              unfold ttF at e
              rw [if_neg hodd] at e
              subst e
              go_wp2
              go_meet
              rfl
          case rest =>
            subst hcut
            go_upto_region 13 with fail
            have HT2 : Hid (T1 W ((wr.setCell ⟨B, i, none⟩ (.pointer (some ⟨H, 0, none⟩))).alloc (.cells #[.string (Kf i), .int .u64 0, .string ⟨#[]⟩, .int .u64 0, .string ⟨#[]⟩, .bool false, .slice none 0 0, .bool false, .int .i64 T, .slice none 0 0, .int .u64 0, .string ⟨#[]⟩, .int .u64 0, .string ⟨#[]⟩, .bool false, .slice none 0 0, .int .i64 0, .int .u64 ((i : Int) + 1), .pointer none, .int .u64 0, .bool false] 140)) n M R B (upd hb i H) vb Kf md D (i + 1) i) := by
              have e := HTT.out
              subst e
              refine HT.out.held hlt _ (fun o ho => ?_) ⟨_, rfl⟩ hH.symm
              have : o = 0 ∨ o = 1 ∨ o = 2 ∨ o = 3 ∨ o = 4 ∨ o = 5 ∨ o = 6 ∨ o = 7 ∨ o = 8 ∨ o = 9 ∨ o = 10 ∨ o = 11 ∨ o = 12 ∨ o = 13 ∨ o = 14 ∨ o = 15 ∨ o = 16 ∨ o = 17 := by omega
              rcases this with rfl | rfl | rfl | rfl | rfl | rfl | rfl | rfl | rfl | rfl | rfl | rfl | rfl | rfl | rfl | rfl | rfl | rfl <;> rfl
            have HPQ : Hid (Pl ((wr.setCell ⟨B, i, none⟩ (.pointer (some ⟨H, 0, none⟩))).alloc (.cells #[.string (Kf i), .int .u64 0, .string ⟨#[]⟩, .int .u64 0, .string ⟨#[]⟩, .bool false, .slice none 0 0, .bool false, .int .i64 T, .slice none 0 0, .int .u64 0, .string ⟨#[]⟩, .int .u64 0, .string ⟨#[]⟩, .bool false, .slice none 0 0, .int .i64 0, .int .u64 ((i : Int) + 1), .pointer none, .int .u64 0, .bool false] 140)) H) := by
              rw [← hH]
              have := heap_alloc_new (wr.setCell ⟨B, i, none⟩ (.pointer (some ⟨H, 0, none⟩))) (.cells #[.string (Kf i), .int .u64 0, .string ⟨#[]⟩, .int .u64 0, .string ⟨#[]⟩, .bool false, .slice none 0 0, .bool false, .int .i64 T, .slice none 0 0, .int .u64 0, .string ⟨#[]⟩, .int .u64 0, .string ⟨#[]⟩, .bool false, .slice none 0 0, .int .i64 0, .int .u64 ((i : Int) + 1), .pointer none, .int .u64 0, .bool false] 140)
              rw [← hH] at this
              exact ⟨_, _, by simpa using this⟩
            clear HT cB hB lB hH HTT hc
            generalize (wr.setCell ⟨B, i, none⟩ (.pointer (some ⟨H, 0, none⟩))).alloc (.cells #[.string (Kf i), .int .u64 0, .string ⟨#[]⟩, .int .u64 0, .string ⟨#[]⟩, .bool false, .slice none 0 0, .bool false, .int .i64 T, .slice none 0 0, .int .u64 0, .string ⟨#[]⟩, .int .u64 0, .string ⟨#[]⟩, .bool false, .slice none 0 0, .int .i64 0, .int .u64 ((i : Int) + 1), .pointer none, .int .u64 0, .bool false] 140) = wq at *
            obtain ⟨x', hx', hc, _⟩ := (HK.out.keep HT2.out.kp (fun _ _ => id)) i hlt
            cases hx'
            have hmw := mode_walk a1 n1 c1 i ms wq (HM.out.keep HT2.out.kp (fun _ _ => id)) (by omega)
            rw [← HMD.out] at hmw
            have hm3 : md i < 3 := by rw [HMD.out]; exact modeF_lt _ _ _
            have r6 := HT2.out.r6
            have lRq := block_lt_of_cell r6
            obtain ⟨mi, hmi⟩ : ∃ mi, mi = md i := ⟨_, rfl⟩
            rw [← hmi] at hmw hm3
            have HMI : Hid (md i = mi) := hmi.symm
            clear hmi
            have hkl := hl
            rcases (show mi = 0 ∨ mi = 1 ∨ mi = 2 by omega) with rfl | rfl | rfl
            · obtain ⟨w5, hup, hown, hgr⟩ := ((Kp.refl (fun _ => False) wq).drew.map id HT2.out.map).update law9 Yba.underlying50 (by unfold maxLen; omega) (keyOf_string_mk Yba.underlying9 hkl) (ptrE_some H)
              have HT5 : Hid (∃ D', T1 W w5 n M R B (upd hb i H) (upd vb i H) Kf md D' (i + 1) (i + 1)) := by
                exact ⟨_, T1.put HT2.out ((Kp.refl _ wq).drew.trans (Kp.grown hgr (fun b e => (Option.some.inj e).symm))) HPQ.out (by omega) (by rw [HMI.out]; omega) (fun _ => (upd_same hb i H).symm) (fun h => by rw [HMI.out] at h; omega) hown (fun l => put_says HT2.out.map.isMap _ _ _)⟩
              clear HT2 hown hgr HPQ
              go_upto_region 15 with (go_at_call 15; refine hmw.mono ?_; rintro e w' ⟨rfl, rfl⟩)
              go_region
              all_goals go_wp2
              obtain ⟨D', hT5⟩ := HT5.out
              go_roundw
              case rel => exact ⟨i + 1, _, _, _, by go_num, by omega, hT5⟩
              case measure => simp [intOf]; omega
            · obtain ⟨H2, hH2⟩ : ∃ H2, wq.heap.size = H2 := ⟨_, rfl⟩
              have ka : Kp (fun _ => False) wq (wq.alloc (.cells #[.string (Kf i), .int .u64 0, .string ⟨#[]⟩, .int .u64 0, .string ⟨#[]⟩, .bool false, .slice none 0 0, .bool false, .int .i64 0, .slice none 0 0, .int .u64 0, .string ⟨#[]⟩, .int .u64 0, .string ⟨#[]⟩, .bool false, .slice none 0 0, .int .i64 0, .int .u64 0, .pointer none, .int .u64 0, .bool false] 140)).drew := ((Kp.refl (fun _ => False) wq).alloc _).drew
              have HTa : Hid (T1 W (wq.alloc (.cells #[.string (Kf i), .int .u64 0, .string ⟨#[]⟩, .int .u64 0, .string ⟨#[]⟩, .bool false, .slice none 0 0, .bool false, .int .i64 0, .slice none 0 0, .int .u64 0, .string ⟨#[]⟩, .int .u64 0, .string ⟨#[]⟩, .bool false, .slice none 0 0, .int .i64 0, .int .u64 0, .pointer none, .int .u64 0, .bool false] 140)).drew n M R B (upd hb i H) vb Kf md D (i + 1) i) := HT2.out.keep ka
              have hpl : Pl (wq.alloc (.cells #[.string (Kf i), .int .u64 0, .string ⟨#[]⟩, .int .u64 0, .string ⟨#[]⟩, .bool false, .slice none 0 0, .bool false, .int .i64 0, .slice none 0 0, .int .u64 0, .string ⟨#[]⟩, .int .u64 0, .string ⟨#[]⟩, .bool false, .slice none 0 0, .int .i64 0, .int .u64 0, .pointer none, .int .u64 0, .bool false] 140)).drew H2 := ⟨_, _, by rw [← hH2]; exact heap_alloc_new wq _⟩
              obtain ⟨w5, hup, hown, hgr⟩ := HTa.out.map.update law9 Yba.underlying50 (by unfold maxLen; omega) (keyOf_string_mk Yba.underlying9 hkl) (ptrE_some H2)
              have hlq : B < H2 := by rw [← hH2]; exact HT2.out.lw
              have HT5 : Hid (∃ D', T1 W w5 n M R B (upd hb i H) (upd vb i H2) Kf md D' (i + 1) (i + 1)) := by
                exact ⟨_, T1.put HTa.out (Kp.grown hgr (fun b e => (Option.some.inj e).symm)) hpl hlq (by rw [HMI.out]; omega) (fun h => by rw [HMI.out] at h; omega) (fun _ t ht e => by have := (HT2.out.hs t ht).lt; omega) hown (fun l => put_says HT2.out.map.isMap _ _ _)⟩
              have hca : ∀ o : Obj, (wq.alloc o).cell? (x.add i) = some (.string (Kf i)) := fun o => ((Kp.refl (fun _ => False) wq).alloc o).cellA id hc
              have lRq2 : R < H2 := by rw [← hH2]; exact lRq
              clear HT2 HTa hown hgr HPQ hpl ka lRq
              go_upto_region 17 with (go_at_call 15; refine hmw.mono ?_; rintro e w' ⟨rfl, rfl⟩)
              go_region
              all_goals go_wp2
              obtain ⟨D', hT5⟩ := HT5.out
              go_roundw
              case rel => exact ⟨i + 1, _, _, _, by go_num, by omega, hT5⟩
              case measure => simp [intOf]; omega
            · go_wp2_with (go_at_call 15; refine hmw.mono ?_; rintro e w' ⟨rfl, rfl⟩)
              go_roundw
              case rel => exact ⟨i + 1, _, _, _, by go_num, by omega, HT2.out.skip HMI.out⟩
              case measure => simp [intOf]; omega
        · have hltz : ¬ (i : Int) < (n : Int) := by omega
          go_wp2
          go_meet
          have e : i = n := by omega
          rw [e] at HT
          exact ⟨hb, vb, D, HT⟩
    case rest =>
      clear HT
      obtain ⟨hb, vb, D, HT⟩ := hcut
      obtain ⟨C, hC⟩ : ∃ C, wc.heap.size = C := ⟨_, rfl⟩
      obtain ⟨Zc, hmk, hzc⟩ := mk103 n (by omega)
      have HZC : Hid (∀ j, j < n → Zc[j]? = some (.pointer none)) := hzc
      clear hzc
      go_upto_region 19 with fail
      have ka : Kp (fun _ => False) wc (wc.alloc (.cells Zc 131)) := (Kp.refl _ _).alloc _
      have hcp := run_copy1 (wc.alloc (.cells Zc 131)) 3 C 0 n n ⟨B, 0, none⟩ n n (List.ofFn (fun t : Fin n => Value.pointer (some ⟨hb t.val, 0, none⟩))) n (Nat.min_self n).symm (by simp)
        (fun j v hv => by
          have hj : j < n := by
            have := (List.getElem?_eq_some_iff.1 hv).1
            simpa using this
          rw [List.getElem?_ofFn, dif_pos hj] at hv
          cases hv
          rw [Addr.add_lit]
          simp only [Nat.zero_add]
          exact ka.cell id (HT.out.row j hj))
        (fun j hj => by
          simp at hj
          rw [Nat.zero_add, alloc_new _ _ _ _ _ hC.symm, HZC.out j hj]
          rfl)
        (fun j hj => alloc_newf _ _ _ _ _ hC.symm) (by
          intro v hv
          simp [List.mem_ofFn] at hv
          obtain ⟨j, rfl⟩ := hv
          rfl)
      go_upto_region 20 with fail
      clear hcp hmk
      have K2 : Hid (Kp (fun _ => False) wc ((wc.alloc (Obj.cells Zc 131)).setCells C 0 (List.ofFn fun t : Fin n => Value.pointer (some ⟨hb t.val, 0, none⟩)))) := ka.trans' (kp_setCells C _ _ _) (fun b hb e => by omega)
      have CS2 : Hid (∀ j, j < n → ((wc.alloc (Obj.cells Zc 131)).setCells C 0 (List.ofFn fun t : Fin n => Value.pointer (some ⟨hb t.val, 0, none⟩))).cell? ⟨C, j, none⟩ = some (.pointer (some ⟨hb j, 0, none⟩))) := fun j hj => by
        have h := World.cell?_setCells_in C (List.ofFn fun t : Fin n => Value.pointer (some ⟨hb t.val, 0, none⟩)) 0 (wc.alloc (Obj.cells Zc 131)) (by
          intro t ht
          simp at ht
          rw [Nat.zero_add, alloc_new _ _ _ _ _ hC.symm, HZC.out t ht]
          rfl) j (by simpa using hj)
        rw [Nat.zero_add] at h
        rw [h]
        simp [List.getElem?_ofFn, hj]
      have LC : Hid (C < ((wc.alloc (Obj.cells Zc 131)).setCells C 0 (List.ofFn fun t : Fin n => Value.pointer (some ⟨hb t.val, 0, none⟩))).heap.size) := Nat.lt_of_lt_of_le (show C < (wc.alloc (Obj.cells Zc 131)).heap.size by simp; omega) (kp_setCells C _ _ _).size
      clear ka HZC
      generalize (wc.alloc (Obj.cells Zc 131)).setCells C 0 (List.ofFn fun t : Fin n => Value.pointer (some ⟨hb t.val, 0, none⟩)) = w2 at *
      obtain ⟨lb, hlb⟩ : ∃ lb, w2.heap.size = lb := ⟨_, rfl⟩
      go_upto_region 22 with fail
      obtain ⟨ov, hov⟩ : ∃ ov : Nat → Option Nat, ov = fun i => mvf Kf md vb n (Kf i).data.toList := ⟨_, rfl⟩
      have HM3 : Hid (∀ j, md j < 3) := fun j => by rw [HMD.out]; exact modeF_lt _ _ _
      have LI : LdIn (w2.alloc (.cells #[.pointer (some ⟨R, 0, none⟩), .slice (some ⟨B, 0, none⟩) n n, .slice none 0 0, .map none, .map none, .slice none 0 0, .map none, .slice none 0 0] 147)) lb R M B n n hb Kf ttF smF D ov := by
        rw [hov]
        refine HT.out.ldIn (K2.out.alloc _) (by rw [← hlb]; exact K2.out.size) (fun i hi => ?_) HM3.out ((alloc_new _ _ _ _ _ hlb.symm).trans rfl) ((alloc_new _ _ _ _ _ hlb.symm).trans rfl) (alloc_newf _ _ _ _ _ hlb.symm)
        obtain ⟨x, _, _, h⟩ := HK.out i hi
        exact h
      have HKE : Hid (∀ i, i < n → (kept hb ov i = true ↔ Kpt Kf md n i)) := fun i hi => by
        rw [hov]
        unfold kept
        rw [decide_eq_true_iff]
        rw [mvf_kept Kf md vb hb n HM3.out HT.out.v0 HT.out.v1 HT.out.hj n (Nat.le_refl _) i hi]
        exact ⟨fun h => h.2, fun h => ⟨hi, h⟩⟩
      have hor := or_walk lb R M B n n hb Kf ttF smF D ov _ LI hn
      clear hov
      go_upto_region 23 with (go_at_call 16; refine hor.mono ?_; rintro e w4 ⟨rfl, xb, yb, zb, pb, τ, HO⟩)
      obtain ⟨E, hE⟩ : ∃ E, E = (flv (kept hb ov) n).length := ⟨_, rfl⟩
      have hEn : E ≤ n := by rw [hE]; exact flv_le _ _
      have HE : Hid (E = (flv (kept hb ov) n).length) := hE
      have HG : Hid (G W w4 lb R B C n E hb (eps hb ov n) Kf xb yb zb pb τ) := by
        have o := HO.out
        rw [← hE] at o
        have kW : Kp (fun _ => False) W w2 := HT.out.kp.trans K2.out
        have lW := kW.size
        have k3 : Kp (fun _ => False) W (w2.alloc (.cells #[.pointer (some ⟨R, 0, none⟩), .slice (some ⟨B, 0, none⟩) n n, .slice none 0 0, .map none, .map none, .slice none 0 0, .map none, .slice none 0 0] 147)) := kW.alloc _
        have hT := HT.out
        have l1 := hT.lM; have l2 := hT.lR; have l3 := hT.lB; have l4 := hT.lw
        refine ⟨k3.trans' o.kp ?_, o.l1, o.lo, o.hi, o.r7, fun j hj => o.kp.cell ?_ ((alloc_old _ _ _ _ LC.out).trans (CS2.out j hj)), o.od.mono k3.size, hT.hj⟩
        · intro b hb' e
          rcases e with e | e | e | ⟨j, hj, e⟩
          · omega
          · omega
          · omega
          · have := hT.lb j hj
            omega
        · have hCl := LC.out
          rintro (e | e | e | ⟨j, hj, e⟩)
          · omega
          · omega
          · omega
          · have := (hT.hs j hj).lt
            omega
      clear hE HO hor LI K2 CS2 LC HT hC hlb
      go_upto_block 3 with fail
      go_cut [13, 14] from 30 to 146 (fun s13 s14 wx => ∃ (la : Option Addr) (lc : Nat), s13 = .slice la E lc ∧ Hid (PRow wx (.slice la E lc) E (fun j => .pointer (some ⟨hb (eps hb ov n j), 0, none⟩))) ∧ Hid (Kp (fun _ => False) w4 wx))
      case first =>
        go_wp2_with fail
        go_loopw [13, 14] (fun v13 v14 wr => ∃ (i kl : Nat) (la : Option Addr) (lc : Nat), v14 = .int .i64 i ∧ i ≤ n ∧ v13 = .slice la kl lc ∧ Hid (kl = (flv (kept hb ov) i).length) ∧ Hid (PRow wr (.slice la kl lc) kl (fun j => .pointer (some ⟨hb (eps hb ov i j), 0, none⟩))) ∧ Hid (∀ b, (Value.slice la kl lc).ownBlock = some b → w4.heap.size ≤ b) ∧ Hid (Kp (fun _ => False) w4 wr)) (fun _ v _ => n + 1 - (intOf v).toNat)
        case atStart => exact ⟨0, 0, none, 0, rfl, Nat.zero_le _, rfl, rfl, Or.inl ⟨rfl, rfl⟩, (fun b h => by cases h), Kp.refl _ _⟩
        case round =>
          obtain ⟨i, kl, la, lc, rfl, hi, rfl, HKL, HRO, HOW, HKR⟩ := hrel
          by_cases hlt : i < n
          · have hltz : (i : Int) < (n : Int) := by omega
            have HGr := HG.out.keep HKR.out
            have hby : ∀ wx, Kp (fun _ => False) w4 wx → ByS wx a1 n1 ms := fun wx k => HM.out.keep (HG.out.kp.trans k) (fun _ _ => id)
            have hke : ∀ wx, Kp (fun _ => False) w4 wx → KeyS wx a0 n Kf := fun wx k => HK.out.keep (HG.out.kp.trans k) (fun _ _ => id)
            have HBY : Hid (∀ wx, Kp (fun _ => False) w4 wx → ByS wx a1 n1 ms) := hby
            have HKY : Hid (∀ wx, Kp (fun _ => False) w4 wx → KeyS wx a0 n Kf) := hke
            have hmw := mode_walk a1 n1 c1 i ms wr (hby wr HKR.out) (by omega)
            rw [← HMD.out] at hmw
            clear hby hke HGr
            obtain ⟨mi, hmi⟩ : ∃ mi, mi = md i := ⟨_, rfl⟩
            rw [← hmi] at hmw
            have HMI : Hid (md i = mi) := hmi.symm
            clear hmi
            by_cases hm0 : mi = 0
            · subst hm0
              go_upto_block 5 with (go_at_call 15; refine hmw.mono ?_; rintro e w5 ⟨rfl, rfl⟩)
              clear hmw
              go_cut [15, 16] from 116 to 137 (fun s15 s16 wx => ∃ lat : Bool, s15 = .bool lat ∧ Hid (kept hb ov i = !lat) ∧ Hid (Kp (fun _ => False) w5 wx))
              case first =>
                go_wp2_with fail
                go_loopw [15, 16] (fun v15 v16 wy => ∃ j : Nat, v16 = .int .i64 j ∧ i < j ∧ j ≤ n ∧ v15 = .bool false ∧ Hid (∀ q, i < q → q < j → (Kf q).data.toList = (Kf i).data.toList → md q = 2) ∧ Hid (Kp (fun _ => False) w5 wy)) (fun _ v _ => n + 1 - (intOf v).toNat)
                case atStart => exact ⟨i + 1, by go_num, by omega, by omega, rfl, (fun q h1 h2 => by omega), Kp.refl _ _⟩
                case round =>
                  obtain ⟨j, rfl, hij, hjn, rfl, HQ, HKY2⟩ := hrel
                  by_cases hjl : j < n
                  · have hjlz : (j : Int) < (n : Int) := by omega
                    obtain ⟨x, hx, hc1, _⟩ := HKY.out wr (HKR.out.trans HKY2.out) j hjl
                    subst hx
                    obtain ⟨x2, hx2, hc2, _⟩ := HKY.out wr (HKR.out.trans HKY2.out) i hlt
                    cases hx2
                    have hmj : ∀ q, Calls Yba.prog 15 #[.slice a1 n1 c1, .int .i64 (j : Int)] (wr.drewN q) fun e w' => e = .returned (.int .i64 (md j : Nat)) ∧ w' = wr.drewN q := fun q => by
                      have h := mode_walk a1 n1 c1 j ms (wr.drewN q) (HBY.out _ ((HKR.out.trans HKY2.out).drewN q)) (by omega)
                      rw [← HMD.out] at h
                      exact h
                    obtain ⟨mj, hmje⟩ : ∃ mj, mj = md j := ⟨_, rfl⟩
                    rw [← hmje] at hmj
                    have HMJ : Hid (md j = mj) := hmje.symm
                    clear hmje
                    by_cases hke : Kf j = Kf i
                    · rw [hke] at hc1
                      by_cases hm2 : mj = 2
                      · subst hm2
                        go_upto_region 32 with fail
                        go_quiet ((go_at_call 15; exact Calls.quiet_of_same (hmj _)))
                        go_wp2
                        go_roundw
                        case rel => exact ⟨j + 1, by go_num, by omega, by omega, rfl, (fun q h1 h2 h3 => by
                                              by_cases e : q = j
                                              · subst e; exact HMJ.out
                                              · exact HQ.out q h1 (by omega) h3), HKY2.out.drewN _⟩
                        case measure => simp [intOf]; omega
                      · have hm2z : ¬ ((mj : Int) = 2) := by omega
                        have hm2b : ((mj : Int) == 2) = false := by simp; omega
                        go_upto_region 32 with fail
                        go_quiet ((go_at_call 15; exact Calls.quiet_of_same (hmj _)))
                        go_wp2
                        go_meet
                        refine ⟨true, rfl, ?_, HKY2.out.drewN _⟩
                        cases hq : kept hb ov i with
                        | false => exact rfl
                        | true =>
                          have h := ((HKE.out i hlt).1 hq).2 j hij hjl (by rw [hke])
                          rw [HMJ.out] at h
                          exact absurd h hm2
                    · have hke2 : ¬ ((Kf j).data.toList = (Kf i).data.toList) := fun h => hke (by
                        have := congrArg List.toArray h
                        simp at this
                        exact ByteArray.ext this)
                      have hkel : ((Kf j).toList == (Kf i).toList) = false := by rw [ByteArray.toList_eq, ByteArray.toList_eq]; simpa using hke2
                      have HK2 : Hid (¬ ((Kf j).data.toList = (Kf i).data.toList)) := hke2
                      clear hke2
                      go_upto_region 32 with fail
                      go_quiet ((go_at_call 15; exact Calls.quiet_of_same (hmj _)))
                      go_wp2
                      go_roundw
                      case rel => exact ⟨j + 1, by go_num, by omega, by omega, rfl, (fun q h1 h2 h3 => by
                                            by_cases e : q = j
                                            · subst e; exact absurd h3 HK2.out
                                            · exact HQ.out q h1 (by omega) h3), HKY2.out.drewN _⟩
                      case measure => simp [intOf]; omega
                  · have hjlz : ¬ (j : Int) < (n : Int) := by omega
                    go_wp2
                    go_meet
                    refine ⟨false, rfl, ?_, HKY2⟩
                    exact (HKE.out i hlt).2 ⟨HMI.out, fun q h1 h2 h3 => HQ.out q h1 (by omega) h3⟩
              case rest =>
                obtain ⟨lat, rfl, HLT, HKX⟩ := hcut
                cases lat with
                | true =>
                  go_wp2
                  go_roundw
                  case rel => exact ⟨i + 1, kl, la, lc, by go_num, by omega, rfl, by rw [flv_no HLT.out]; exact HKL, by unfold eps; rw [flv_no HLT.out]; exact HRO.out.keep HKX.out (fun _ _ => id), HOW, HKR.out.trans HKX.out⟩
                  case measure => simp [intOf]; omega
                | false =>
                  have hkt : kept hb ov i = true := HLT.out
                  have HKT : Hid (kept hb ov i = true) := hkt
                  have ci := (HG.out.keep (HKR.out.trans HKX.out)).cs i hlt
                  have hk4 : kl ≤ 4000 := by rw [HKL.out]; exact Nat.le_trans (flv_le _ _) (by omega)
                  have hrow5 : PRow (wc.alloc (.cells #[.pointer (some ⟨hb i, 0, none⟩)] 131)) (.slice la kl lc) kl (fun j => .pointer (some ⟨hb (eps hb ov i j), 0, none⟩)) := HRO.out.keep (HKX.out.alloc _) (fun _ _ => id)
                  have HR5 : Hid (PRow (wc.alloc (.cells #[.pointer (some ⟨hb i, 0, none⟩)] 131)) (.slice la kl lc) kl (fun j => .pointer (some ⟨hb (eps hb ov i j), 0, none⟩))) := hrow5
                  have hnc : (wc.alloc (.cells #[.pointer (some ⟨hb i, 0, none⟩)] 131)).cell? ((⟨wc.heap.size, 0, none⟩ : Addr).add 0) = some (.pointer (some ⟨hb i, 0, none⟩)) := by rw [Addr.add_lit]; exact (alloc_new _ _ _ _ _ rfl).trans rfl
                  have HNC : Hid ((wc.alloc (.cells #[.pointer (some ⟨hb i, 0, none⟩)] 131)).cell? ((⟨wc.heap.size, 0, none⟩ : Addr).add 0) = some (.pointer (some ⟨hb i, 0, none⟩))) := hnc
                  have HKA : Hid (Kp (fun _ => False) w4 (wc.alloc (.cells #[.pointer (some ⟨hb i, 0, none⟩)] 131))) := (HKR.out.trans HKX.out).alloc _
                  clear hrow5 hnc hkt
                  go_wp2_with (at_builtin; refine wpList_ptr rfl (.tmp 140) (.tmp 145) rfl (.slice la kl lc) kl _ rfl HR5.out hk4 ⟨wc.heap.size, 0, none⟩ 1 (.pointer (some ⟨hb i, 0, none⟩)) rfl HNC.out rfl ?_; intro v' w6 h1 h2 h3; obtain ⟨xa, xc, hvx, _⟩ := h1.slice; subst hvx; have P1 : Hid _ := h1; have P2 : Hid _ := h2; have P3 : Hid _ := h3; clear h1 h2 h3)
                  go_roundw
                  case rel =>
                    refine ⟨i + 1, kl + 1, xa, xc, by go_num, by omega, rfl, ?_, ?_, ?_, ?_⟩
                    · rw [flv_yes HKT.out]
                      have h := HKL.out
                      simp [Hid, h]
                    · refine PRow.congr P1.out (fun j hj => ?_)
                      have h := HKL.out
                      unfold eps
                      rw [flv_yes HKT.out]
                      by_cases e : j < kl
                      · rw [if_pos e]
                        simp [List.getD_eq_getElem?_getD, List.getElem?_append_left (show j < (flv (kept hb ov) i).length by omega)]
                      · rw [if_neg e]
                        have e2 : j = (flv (kept hb ov) i).length := by omega
                        subst e2
                        simp
                    · intro b hb'
                      rcases P3.out b hb' with h | h
                      · exact HOW.out b h
                      · exact Nat.le_trans HKA.out.size h
                    · exact HKA.out.trans' P2.out (fun b hb' e => by have := HOW.out b e; omega)
                  case measure => simp [intOf]; omega
            · have hm0z : ¬ ((mi : Int) = 0) := by omega
              go_wp2_with (go_at_call 15; refine hmw.mono ?_; rintro e w' ⟨rfl, rfl⟩)
              have hkf : kept hb ov i = false := by
                cases hq : kept hb ov i with
                | false => rfl
                | true => exact absurd (((HKE.out i hlt).1 hq).1) (by rw [HMI.out]; exact hm0)
              go_roundw
              case rel => exact ⟨i + 1, kl, la, lc, by go_num, by omega, rfl, by rw [flv_no hkf]; exact HKL, by unfold eps; rw [flv_no hkf]; exact HRO, HOW, HKR⟩
              case measure => simp [intOf]; omega
          · have hltz : ¬ (i : Int) < (n : Int) := by omega
            go_wp2
            go_meet
            have e : i = n := by omega
            subst e
            have h1 := HKL.out
            rw [← HE.out] at h1
            subst h1
            exact ⟨la, lc, rfl, HRO, HKR⟩
      case rest =>
        obtain ⟨la, lc, rfl, HR6, HK6⟩ := hcut
        have HG6 : Hid (G W wc lb R B C n E hb (eps hb ov n) Kf xb yb zb pb τ) := HG.out.keep HK6.out
        clear HG HK6
        obtain ⟨w6, rfl⟩ : ∃ w6, w6 = wc := ⟨_, rfl⟩
        have c1 := HG6.out.l1
        go_upto_block 7 with fail
        clear c1
        go_cut [17, 157] from 30 to 172 (fun s17 s157 wx => Hid (Kp (fun _ => False) w6 wx))
        case first =>
          go_wp2_with fail
          go_loopw [157] (fun v wr => ∃ i : Nat, v = .int .i64 i ∧ i ≤ E ∧ Hid (Kp (fun _ => False) w6 wr)) (fun v _ => E + 1 - (intOf v).toNat)
          case atStart => exact ⟨0, rfl, Nat.zero_le _, Kp.refl _ _⟩
          case round =>
            obtain ⟨i, rfl, hi, HKR⟩ := hrel
            by_cases hlt : i < E
            · have hltz : (i : Int) < (E : Int) := by omega
              have g := HG6.out.keep HKR.out
              have c1 := g.l1
              have c2 := g.lo i hlt
              have ci := (HR6.out.keep HKR.out (fun _ _ => id)).at_ hlt
              obtain ⟨xb2, hla, c3⟩ := ci
              subst hla
              have hne := neq131_same (hb (eps hb ov n i))
              clear g
              go_upto_region 41 with fail
              go_quiet (fail)
              go_wp2
              go_roundw
              case rel => exact ⟨i + 1, by go_num, by omega, HKR.out.drewN _⟩
              case measure => simp [intOf]; omega
            · have hltz : ¬ (i : Int) < (E : Int) := by omega
              go_wp2
              go_meet
              exact HKR
        case rest =>
          have HK7 := hcut
          clear hcut
          obtain ⟨w7, rfl⟩ : ∃ w7, w7 = wc := ⟨_, rfl⟩
          go_upto_block 9 with fail
          go_cut [18] from 30 to 184 (fun s18 wx => Hid (Kp (fun _ => False) w6 wx))
          case first =>
            go_wp2_with fail
            go_loopw [18] (fun v wr => ∃ i : Nat, v = .int .i64 i ∧ E ≤ i ∧ i ≤ n ∧ Hid (Kp (fun _ => False) w6 wr)) (fun v _ => n + 1 - (intOf v).toNat)
            case atStart => exact ⟨E, rfl, Nat.le_refl _, hEn, HK7⟩
            case round =>
              obtain ⟨i, rfl, hi1, hi, HKR⟩ := hrel
              by_cases hlt : i < n
              · have hltz : (i : Int) < (n : Int) := by omega
                have c2 := (HG6.out.keep HKR.out).hi i hi1 hlt
                have hne := neq131_nil
                go_wp2
                go_roundw
                case rel => exact ⟨i + 1, by go_num, by omega, by omega, HKR⟩
                case measure => simp [intOf]; omega
              · have hltz : ¬ (i : Int) < (n : Int) := by omega
                go_wp2
                go_meet
                exact HKR
          case rest =>
            clear HK7
            have HK8 := hcut
            clear hcut
            obtain ⟨w8, rfl⟩ : ∃ w8, w8 = wc := ⟨_, rfl⟩
            refine ‹∀ (a : Act) (w : World), Code.wp Yba.prog _ _ a w → _› _ _ ?_
            exact tail_walk a0 n c0 Kf a1 n1 c1 W w6 w8 lb R B C E hb ov xb yb zb pb τ la lc hn hEn HE HR6 HG6 HK8
  · have hnz : (1024 : Int) < (n : Int) := by omega
    go_enter Yba.func5, Yba.ntmps5
    go_wp2
    go_ret
    exact ⟨rfl, Below.refl _ _⟩

end Go.Proofs.Ybulkaixg.Ord
