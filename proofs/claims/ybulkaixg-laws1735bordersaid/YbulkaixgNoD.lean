/-
  newOrder (29).
-/
import Derived.Test.YbulkaixgNoC
import Derived.Deep.RegionWith
import Derived.Deep.RegionHeld3
namespace Go.Proofs.Ybulkaixg.Ord
open Go.RowKit
set_option linter.unusedVariables false
set_option linter.unusedSimpArgs false
set_option maxRecDepth 100000

theorem res29 (tmps : Array Value) (w : World) (r0 : Nat) (v : Value) (hp : tmps.getD 2 undef = .pointer (some ⟨r0, 0, none⟩)) (hc : w.cell? ⟨r0, 0, none⟩ = some v) : (results Yba.f29 tmps).run Yba.prog w = .ok (.agg #[v]) w := by
  have hp' : tmps[2]?.getD undef = .pointer (some ⟨r0, 0, none⟩) := by simpa using hp
  simp [results, hp', asAddr, loadVar, go_sem, hc]

set_option maxHeartbeats 4000000 in
theorem no_walk (A m c : Nat) (hb : Nat → Nat) (K : Nat → ByteArray) (tt sm : Nat → Int) (w : World) (hrow : ∀ i, i < m → w.cell? ⟨A, i, none⟩ = some (.pointer (some ⟨hb i, 0, none⟩))) (hhs : ∀ i, i < m → HB w (hb i) (K i) (tt i) (sm i))
    (hlen : ∀ i, i < m → (K i).size ≤ maxLen) (hA : ∀ i, i < m → A ≠ hb i) (hinj : ∀ i j, i < m → j < m → hb i = hb j → i = j) (hm : m ≤ 1024) (hmc : m ≤ c) (hc : c < 1099511627776)
    (hD : ∀ i j, i < m → j < m → (K i).data.toList = (K j).data.toList → i = j) :
    Calls Yba.prog 29 #[.slice (some ⟨A, 0, none⟩) m c] w fun e w' => ∃ (xb yb zb pb : Nat) (τ : Nat → Nat), e = .returned (.agg #[.slice (some ⟨zb, 0, none⟩) ((m + 255) / 256) ((m + 255) / 256)]) ∧ Hid (Odr w w' m hb K tt sm xb yb zb pb ((m + 255) / 256) τ) := by
  have hH : Hs w A m hb K := ⟨hrow, fun i hi => (hhs i hi).c 0 (by omega), hlen⟩
  have HHS : Hid (∀ i, i < m → HB w (hb i) (K i) (tt i) (sm i)) := hhs
  have HA : Hid (∀ i, i < m → A ≠ hb i) := hA
  have HI : Hid (∀ i j, i < m → j < m → hb i = hb j → i = j) := hinj
  have HD : Hid (∀ i j, i < m → j < m → (K i).data.toList = (K j).data.toList → i = j) := hD
  clear hhs hA hinj hlen hD hrow
  obtain ⟨NB, hNB⟩ : ∃ NB : Nat, NB = (m + 255) / 256 := ⟨_, rfl⟩
  have eNB : ((m : Int) + 256 - 1) / 256 = (NB : Int) := by omega
  have lNB : NB ≤ 4 := by omega
  obtain ⟨r0, hr0⟩ : ∃ r0, w.heap.size = r0 := ⟨_, rfl⟩
  have HH : Hid (Hs w A m hb K) := hH
  clear hH
  obtain ⟨X, hmX, hzX⟩ := mk103 m (by omega)
  obtain ⟨Y, hmY, hzY⟩ := mk148 m (by omega)
  obtain ⟨Z, hmZ, hzZ⟩ := mk51 NB (by omega)
  have HZX : Hid (∀ j, j < m → X[j]? = some (.pointer none)) := hzX
  have HZY : Hid (∀ j, j < m → Y[j]? = some (.int .u64 0)) := hzY
  have HZZ : Hid (∀ j, j < NB → Z[j]? = some (.pointer none)) := hzZ
  have HNB : Hid (NB = (m + 255) / 256) := hNB
  clear hzX hzY hzZ hNB
  go_enter Yba.func29, Yba.ntmps29
  go_upto_region 4 with fail
  have HL : Hid (L1 w _ r0 (r0 + 1) (r0 + 1 + 1) (r0 + 1 + 1 + 1) (r0 + 1 + 1 + 1 + 1) (r0 + 5) m NB 0) := L1.start w X Y Z m NB r0 hr0 HZX.out HZY.out HZZ.out
  generalize ((((w.alloc (Obj.cells #[Value.slice none 0 0] 53)).alloc (Obj.cells X 131)).alloc (Obj.cells Y 23)).alloc (Obj.cells Z 138)).alloc (Obj.cells #[Value.slice (some ⟨r0 + 1 + 1 + 1, 0, none⟩) NB NB] 53) = w1 at *
  clear HZX HZY HZZ hmX hmY hmZ
  generalize r0 + 5 = pb at *
  generalize r0 + 1 + 1 + 1 + 1 = ob at *
  generalize r0 + 1 + 1 + 1 = zb at *
  generalize r0 + 1 + 1 = yb at *
  generalize r0 + 1 = xb at *
  have o1 := HL.out.o
  go_upto_block 0 with fail
  clear o1
  go_cut [32] from 6 to 59 (fun s32 wx => Hid (L1 w wx r0 xb yb zb ob pb m NB NB))
  case first =>
    go_wp2_with fail
    go_loopw [32] (fun v wr => ∃ t : Nat, v = .int .i64 t ∧ t ≤ NB ∧ Hid (L1 w wr r0 xb yb zb ob pb m NB t)) (fun v _ => NB + 1 - (intOf v).toNat)
    case atStart => exact ⟨0, rfl, Nat.zero_le _, HL⟩
    case round =>
      clear HL
      obtain ⟨t, rfl, ht, HL⟩ := hrel
      by_cases hlt : t < NB
      · have hltz : (t : Int) < (NB : Int) := by omega
        have l := HL.out
        have c1 := l.o
        have c2 := l.z1 t (Nat.le_refl _) hlt
        have f2 := l.fz zb t (by have := l.o1; have := l.o2; have := l.o3; omega) (by have := l.o4; have := l.o5; omega)
        have s1 := l.size
        have p1 : ob < pb + t := by have := l.o5; omega
        have p2 : zb < pb + t := by have := l.o4; have := l.o5; omega
        have m1 : (t : Int) * 256 < m := by omega
        clear l
        go_upto_region 8 with fail
        go_region
        all_goals go_wp2
        all_goals go_roundw
        case rel =>
          rw [blen_eq]
          exact ⟨t + 1, by go_num, by omega, HL.out.step hlt⟩
        case measure => simp [intOf]; omega
      · have hltz : ¬ (t : Int) < (NB : Int) := by omega
        go_wp2
        go_meet
        have e : t = NB := by omega
        rw [e] at HL
        exact HL
  case rest =>
    clear HL
    have HL := hcut
    clear hcut
    obtain ⟨G, hmG, hzG⟩ := mk83 m (by omega)
    have HZG : Hid (∀ j, j < m → G[j]? = some (.int .i64 0)) := hzG
    clear hzG
    obtain ⟨gb, hgb⟩ : ∃ gb, wc.heap.size = gb := ⟨_, rfl⟩
    have HGB : Hid (gb = pb + NB) := by rw [← hgb]; exact HL.out.size
    have HOB := HL.out.toOb
    have HKP : Hid (Kp (fun _ => False) w wc) := HL.out.kp
    have HOB : Hid (Ob wc r0 xb yb zb ob pb m NB (fun _ => .pointer none) (fun _ => .int .u64 0) (fun _ => 0)) := HOB
    clear HL
    go_upto_region 11 with fail
    have HKP2 : Hid (Kp (fun _ => False) w (wc.alloc (Obj.cells G 3))) := HKP.out.alloc _
    have HOB2 : Hid (Ob (wc.alloc (Obj.cells G 3)) r0 xb yb zb ob pb m NB (fun _ => .pointer none) (fun _ => .int .u64 0) (fun _ => 0)) := HOB.out.keep ((Kp.refl (fun _ => False) _).alloc _) (fun _ _ _ => id)
    have HPL2 : Hid (∀ k, k < m → ∃ v, (wc.alloc (Obj.cells G 3)).cell? ⟨gb, k, none⟩ = some v) := fun k hk => ⟨_, (alloc_new _ _ _ _ _ hgb.symm).trans (HZG.out k hk)⟩
    have HFZ2 : Hid (∀ o, (wc.alloc (Obj.cells G 3)).frozen? ⟨gb, o, none⟩ = false) := fun o => alloc_newf _ _ _ _ _ hgb.symm
    have HSZ2 : Hid ((wc.alloc (Obj.cells G 3)).heap.size = gb + 1) := by simp [Hid, hgb]
    clear HKP HOB HZG hgb hmG
    generalize wc.alloc (Obj.cells G 3) = w2 at *
    have hs2 : Hs w2 A m hb K := ⟨fun i hi => HKP2.out.cell id (HH.out.row i hi), fun i hi => HKP2.out.cell id (HH.out.key i hi), HH.out.len⟩
    have hsk := sk_walk A m c hb K w2 hs2 hm hmc hc HD.out
    obtain ⟨kb, hkb⟩ : ∃ kb, w2.heap.size = kb := ⟨_, rfl⟩
    rw [hkb] at hsk
    clear hs2
    go_upto_block 2 with (go_at_call 48; refine hsk.mono ?_; rintro e w3 ⟨rfl, τ, HP⟩)
    clear hsk
    have hkg : gb < kb := by rw [← hkb, HSZ2.out]; omega
    have hP := HP.out
    have HNX : Hid (∀ i, i < m → ∃ x : Nat, w3.cell? ⟨kb, i * 2, none⟩ = some (.int .u64 (x : Int))) := by have := hP.next; rwa [hkb] at this
    have HAT : Hid (∀ i, i < m → w3.cell? ⟨kb, i * 2 + 1, none⟩ = some (.int .i64 (τ i : Int))) := by have := hP.at_; rwa [hkb] at this
    have HTL : Hid (∀ i, i < m → τ i < m) := hP.lt
    have HTI : Hid (∀ i j, i < m → j < m → τ i = τ j → i = j) := hP.inj
    have HTS : Hid (∀ k, k < m → ∃ i, i < m ∧ τ i = k) := hP.sur
    have HTA : Hid (∀ i j, i < j → j < m → (K (τ i)).data.toList < (K (τ j)).data.toList) := hP.asc
    have HKP3 : Hid (Kp (fun _ => False) w w3) := HKP2.out.trans hP.kp
    have HOB3 : Hid (Ob w3 r0 xb yb zb ob pb m NB (fun _ => .pointer none) (fun _ => .int .u64 0) (fun _ => 0)) := HOB2.out.keep hP.kp (fun _ _ _ => id)
    have HPL3 : Hid (PL w3 gb m τ 0) := ⟨fun i hi => by omega, fun k hk => some_keep (HPL2.out k hk) fun v hv => hP.kp.cell id hv, fun o => (hP.kp.frozen (by omega) id).trans (HFZ2.out o)⟩
    have HK3 : Hid (kb < w3.heap.size) := by rw [← hkb]; exact hP.more
    clear hP HP HKP2 HOB2 HPL2 HFZ2 HSZ2 hkb
    go_cut [66] from 10 to 76 (fun s66 wx => Hid (Kp (fun b => b = gb) w3 wx) ∧ Hid (PL wx gb m τ m))
    case first =>
      go_wp2_with fail
      go_loopw [66] (fun v wr => ∃ t : Nat, v = .int .i64 t ∧ t ≤ m ∧ Hid (Kp (fun b => b = gb) w3 wr) ∧ Hid (PL wr gb m τ t)) (fun v _ => m + 1 - (intOf v).toNat)
      case atStart => exact ⟨0, rfl, Nat.zero_le _, Kp.refl _ _, HPL3⟩
      case round =>
        obtain ⟨t, rfl, ht, HK, HPL⟩ := hrel
        by_cases hlt : t < m
        · have hltz : (t : Int) < (m : Int) := by omega
          obtain ⟨x, hx⟩ := HNX.out t hlt
          have c1 := HK.out.cell (show ¬ kb = gb by omega) hx
          have c2 := HK.out.cell (show ¬ kb = gb by omega) (HAT.out t hlt)
          obtain ⟨v, hv⟩ := HPL.out.s _ (HTL.out t hlt)
          have hf := HPL.out.fz
          have hgl : gb < wr.heap.size := block_lt_of_cell hv
          have htl := HTL.out t hlt
          clear hx
          go_wp2
          go_roundw
          case rel => exact ⟨t + 1, by go_num, by omega, (HK.out.set (Or.inl rfl) _).alloc _, (HPL.out.step htl (fun i hi e => by have := HTI.out i t (by omega) hlt e; omega)).keep ((Kp.refl (fun _ => False) _).alloc _) id (by simpa using hgl)⟩
          case measure => simp [intOf]; omega
        · have hltz : ¬ (t : Int) < (m : Int) := by omega
          go_wp2
          go_meet
          have e : t = m := by omega
          rw [e] at HPL
          exact ⟨HK, HPL⟩
    case rest =>
      obtain ⟨HK4, HPL4⟩ := hcut
      obtain ⟨pos, hp1, hp2⟩ := inverse τ m HTL.out HTI.out HTS.out
      have HP1 : Hid (∀ i, i < m → pos (τ i) = i) := hp1
      have HP2 : Hid (∀ k, k < m → pos k < m ∧ τ (pos k) = k) := hp2
      clear hp1 hp2
      have HR3 : Hid (R3 w wc A m hb K tt sm r0 xb yb zb ob pb NB gb pos (fun _ => .pointer none) (fun _ => .int .u64 0) (fun _ => 0) 0 0) := by
        have hgw : w.heap.size ≤ gb := by
          have := HOB3.out.o1; have := HOB3.out.o2; have := HOB3.out.o3; have := HOB3.out.o4; have := HOB3.out.o5; have := HGB.out
          omega
        have k4 : Kp (fun _ => False) w wc := HKP3.out.trans' HK4.out fun b hb e => by omega
        refine ⟨k4.mono (fun _ _ => False.elim), HOB3.out.keep HK4.out (fun b h1 h2 e => by have := HGB.out; omega), ?_, fun i hi => (HHS.out i hi).keep k4 id, fun i hi => k4.cell id (HH.out.row i hi), fun k hk => by omega, fun k hk => by omega, fun k hk => by omega, fun j hj => rfl, Nat.le_of_eq hr0, Nat.le_of_eq HGB.out.symm, ?_, fun k hk => (HP2.out k hk).1, ?_, ?_, HI.out⟩
        · intro k hk
          obtain ⟨h1, h2⟩ := HP2.out k hk
          have := HPL4.out.c (pos k) h1
          rwa [h2] at this
        · intro i hi
          exact ⟨block_lt_of_cell (HH.out.row i hi), HA.out i hi, (HHS.out i hi).lt⟩
        · intro k hk
          have := (HP2.out k hk).1
          have := HNB.out
          omega
        · intro k l hk hl e
          rw [← (HP2.out k hk).2, ← (HP2.out l hl).2, e]
      have HG4 : Hid (gb < wc.heap.size) := Nat.lt_of_lt_of_le (Nat.lt_trans hkg HK3.out) HK4.out.size
      clear HK4 HPL4 HNX HAT HKP3 HOB3 HPL3 HK3 hkg
      go_upto_block 4 with fail
      go_cut [79] from 12 to 121 (fun s79 wx => ∃ (xv yv : Nat → Value) (tm : Nat → Nat), Hid (R3 w wx A m hb K tt sm r0 xb yb zb ob pb NB gb pos xv yv tm m m))
      case first =>
        go_wp2_with fail
        go_loopw [79] (fun v wr => ∃ (t : Nat) (xv yv : Nat → Value) (tm : Nat → Nat), v = .int .i64 t ∧ t ≤ m ∧ Hid (gb < wr.heap.size) ∧ Hid (R3 w wr A m hb K tt sm r0 xb yb zb ob pb NB gb pos xv yv tm t t)) (fun v _ => m + 1 - (intOf v).toNat)
        case atStart => exact ⟨0, _, _, _, rfl, Nat.zero_le _, HG4, HR3⟩
        case round =>
          clear HR3 HG4
          obtain ⟨t, xv, yv, tm, rfl, ht, HG, HR⟩ := hrel
          by_cases hlt : t < m
          · have hltz : (t : Int) < (m : Int) := by omega
            have r := HR.out
            have c1 := r.row t hlt
            have c2 := r.pl t hlt
            have c3 := r.mem.o
            have c4 := r.mem.z _ (r.pn t hlt)
            have c5 := r.mem.x _ (r.pm t hlt)
            have c6 := r.mem.y _ (r.pm t hlt)
            have c7 : wr.cell? ⟨hb t, 17, none⟩ = some (.int .u64 (sm t)) := (r.hs t hlt).c 17 (by omega)
            obtain ⟨v18, c8⟩ := (r.hs t hlt).inn
            have f7 := (r.hs t hlt).fz
            have o1 := r.mem.o1; have o2 := r.mem.o2; have o3 := r.mem.o3; have o4 := r.mem.o4; have o5 := r.mem.o5
            have fx := fun o => r.mem.fz xb o (by omega) (by omega)
            have fy := fun o => r.mem.fz yb o (by omega) (by omega)
            have p1 := r.pm t hlt
            have p2 := r.pn t hlt
            have n1 : hb t < xb := by have := (r.la t hlt).2.2; have := r.l0; omega
            have n2 : ¬ (hb t = xb) := by omega
            have n3 : ¬ (hb t = yb) := by omega
            have n4 : ¬ (xb = yb) := by omega
            have n5 : ¬ (yb = xb) := by omega
            have n6 : ¬ (xb = hb t) := by omega
            have n7 : ¬ (yb = hb t) := by omega
            obtain ⟨i, hi⟩ : ∃ i, i = pos t := ⟨_, rfl⟩
            rw [← hi] at c2 c4 c5 c6 p1 p2
            have HPI : Hid (pos t = i) := hi.symm
            obtain ⟨J, hJ⟩ : ∃ J, J = i / 256 := ⟨_, rfl⟩
            rw [← hJ] at c4 p2
            have HPJ : Hid (i / 256 = J) := hJ.symm
            have eJ : ((i : Int) / 256) = (J : Int) := by omega
            clear hi hJ r o1 o2 o3 o4 o5
            go_upto_region 22 with fail
            have HQ : Hid (R3 w (((wr.setCell ⟨xb, i, none⟩ (.pointer (some ⟨hb t, 0, none⟩))).setCell ⟨yb, i, none⟩ (.int .u64 (sm t))).setCell ⟨hb t, 18, none⟩ (.pointer (some ⟨pb + J, 0, none⟩))) A m hb K tt sm r0 xb yb zb ob pb NB gb pos
              (updV xv i (.pointer (some ⟨hb t, 0, none⟩))) (updV yv i (.int .u64 (sm t))) tm (t + 1) t) := by
              have h := HR.out.place hlt
              rw [HPI.out, HPJ.out] at h
              exact h
            have HG2 : Hid (gb < (((wr.setCell ⟨xb, i, none⟩ (.pointer (some ⟨hb t, 0, none⟩))).setCell ⟨yb, i, none⟩ (.int .u64 (sm t))).setCell ⟨hb t, 18, none⟩ (.pointer (some ⟨pb + J, 0, none⟩))).heap.size) := by
              have := HG.out
              simpa [Hid] using this
            clear HR HG c1 c2 c3 c4 c5 c6 c7 c8 f7 fx fy n1 n2 n3 n4 n5 n6 n7
            generalize ((wr.setCell ⟨xb, i, none⟩ (.pointer (some ⟨hb t, 0, none⟩))).setCell ⟨yb, i, none⟩ (.int .u64 (sm t))).setCell ⟨hb t, 18, none⟩ (.pointer (some ⟨pb + J, 0, none⟩)) = wq at *
            have r := HQ.out
            have q := r.hs t hlt
            have e1 : wq.cell? ⟨hb t, 1, none⟩ = some (.int .u64 0) := q.c 1 (by omega)
            have e2 : wq.cell? ⟨hb t, 2, none⟩ = some (.string ⟨#[]⟩) := q.c 2 (by omega)
            have e3 : wq.cell? ⟨hb t, 3, none⟩ = some (.int .u64 0) := q.c 3 (by omega)
            have e4 : wq.cell? ⟨hb t, 4, none⟩ = some (.string ⟨#[]⟩) := q.c 4 (by omega)
            have e5 : wq.cell? ⟨hb t, 5, none⟩ = some (.bool false) := q.c 5 (by omega)
            have e6 : wq.cell? ⟨hb t, 6, none⟩ = some (.slice none 0 0) := q.c 6 (by omega)
            have e7 : wq.cell? ⟨hb t, 7, none⟩ = some (.bool false) := q.c 7 (by omega)
            have e8 : wq.cell? ⟨hb t, 8, none⟩ = some (.int .i64 (tt t)) := q.c 8 (by omega)
            have e9 : wq.cell? ⟨hb t, 9, none⟩ = some (.slice none 0 0) := q.c 9 (by omega)
            have e10 : wq.cell? ⟨hb t, 10, none⟩ = some (.int .u64 0) := q.c 10 (by omega)
            have e11 : wq.cell? ⟨hb t, 11, none⟩ = some (.string ⟨#[]⟩) := q.c 11 (by omega)
            have e12 : wq.cell? ⟨hb t, 12, none⟩ = some (.int .u64 0) := q.c 12 (by omega)
            have e13 : wq.cell? ⟨hb t, 13, none⟩ = some (.string ⟨#[]⟩) := q.c 13 (by omega)
            have e14 : wq.cell? ⟨hb t, 14, none⟩ = some (.bool false) := q.c 14 (by omega)
            have e15 : wq.cell? ⟨hb t, 15, none⟩ = some (.slice none 0 0) := q.c 15 (by omega)
            have b2 := r.mem.b2 J p2
            have fb := r.mem.fz (pb + J) 2 (by have := r.mem.o1; have := r.mem.o2; have := r.mem.o3; have := r.mem.o4; have := r.mem.o5; omega) (by omega)
            have lb : pb + J < wq.heap.size := block_lt_of_cell b2
            have lh : hb t < wq.heap.size := block_lt_of_cell e1
            have tb : tm J ≤ 1024 := by rw [r.dt J p2]; exact Nat.le_trans (cnt_le _ _) (by omega)
            clear r q
            have hct := fun w => ct_walk #[.int .u64 0, .string ⟨#[]⟩, .int .u64 0, .string ⟨#[]⟩, .bool false, .slice none 0 0, .bool false, .int .i64 (tt t), .slice none 0 0, .int .u64 0, .string ⟨#[]⟩, .int .u64 0, .string ⟨#[]⟩, .bool false, .slice none 0 0] (tt t) rfl w
            obtain ⟨d, hd⟩ : ∃ d : Nat, d = if tt t = 0 then 0 else 1 := ⟨_, rfl⟩
            have hdz : (if tt t = 0 then (0 : Int) else 1) = (d : Int) := by rw [hd]; split <;> rfl
            have hd1 : d ≤ 1 := by rw [hd]; split <;> omega
            rw [hdz] at hct
            have HDD : Hid ((if tt t = 0 then 0 else 1) = d) := hd.symm
            clear hd hdz
            go_region_with ((go_at_call 49; refine (hct _).mono ?_; rintro e w6 ⟨rfl, rfl⟩))
            all_goals go_wp2
            all_goals go_roundw
            all_goals first
              | exact ⟨t + 1, _, _, _, by go_num, by omega, by have := HG2.out; simp [Hid]; omega, HQ.out.count hlt (by rw [HPI.out]; exact HPJ.out) HDD.out _ _⟩
              | (simp [intOf]; omega)
          · have hltz : ¬ (t : Int) < (m : Int) := by omega
            go_wp2
            go_meet
            have e : t = m := by omega
            rw [e] at HR
            exact ⟨xv, yv, tm, HR⟩
      case rest =>
        clear HR3 HG4
        obtain ⟨xv, yv, tm, HR⟩ := hcut
        have c1 := HR.out.mem.o
        obtain ⟨v0, c2⟩ := HR.out.mem.res
        have f0 := HR.out.mem.fz r0 0 (Nat.le_refl _) (by have r := HR.out.mem; have := r.o1; have := r.o2; have := r.o3; have := r.o4; have := r.o5; omega)
        go_wp2
        (try simp only [Exit.inBlock, Exit.then])
        refine bodyPost_ret (res29 _ _ r0 _ rfl (cset_eq _ _ _ _ _ c2)) rfl ?_
        have hnb := HNB.out
        subst hnb
        exact ⟨xb, yb, zb, pb, τ, rfl, HR.out.odr HTL.out HTI.out HTS.out HTA.out HP1.out ((Kp.refl (fun b => b = r0) _).set (Or.inl rfl) _)⟩

end Go.Proofs.Ybulkaixg.Ord
