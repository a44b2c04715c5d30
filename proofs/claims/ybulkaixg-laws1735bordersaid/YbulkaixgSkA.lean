/-
  sortKeys (48).
-/
import Derived.Test.YbulkaixgPref
import Derived.Test.YbulkaixgMk
import Derived.Test.YbulkaixgByE
import Derived.Test.YbulkaixgSrtH
import Derived.Laws.Bits64b
import Derived.IntWalk
namespace Go.Proofs.Ybulkaixg.Ord
open Go.RowKit Go.Sort Go.Proofs.Ybulkaixg.Srt
set_option linter.unusedVariables false
set_option linter.unusedSimpArgs false
set_option maxRecDepth 100000

/-- A row of pointers to held, and their keys. -/
structure Hs (w : World) (A m : Nat) (hb : Nat → Nat) (K : Nat → ByteArray) : Prop where
  row : ∀ i, i < m → w.cell? ⟨A, i, none⟩ = some (.pointer (some ⟨hb i, 0, none⟩))
  key : ∀ i, i < m → w.cell? ⟨hb i, 0, none⟩ = some (.string (K i))
  len : ∀ i, i < m → (K i).size ≤ maxLen

/-- The bytes that all of the first n keys share. -/
structure Shared (K : Nat → ByteArray) (n s : Nat) : Prop where
  le : ∀ i, i < n → s ≤ (K i).data.toList.length
  eq : ∀ i j, i < n → j < n → (K i).data.toList.take s = (K j).data.toList.take s

theorem Shared.one (K : Nat → ByteArray) : Shared K 1 (K 0).size :=
  ⟨fun i hi => by obtain rfl : i = 0 := by omega
                  simp, fun i j hi hj => by obtain rfl : i = 0 := by omega
                                            obtain rfl : j = 0 := by omega
                                            rfl⟩
theorem Shared.step {K : Nat → ByteArray} {n s : Nat} (h : Shared K n s) (hn : 0 < n) : Shared K (n + 1) (cpre ((K 0).data.toList.take s) (K n).data.toList) := by
  obtain ⟨l1, l2, e⟩ := cpre_le ((K 0).data.toList.take s) (K n).data.toList
  generalize cpre ((K 0).data.toList.take s) (K n).data.toList = t at *
  have hs := h.le 0 hn
  have ht : t ≤ s := by rw [List.length_take] at l1; omega
  have e0 : (K 0).data.toList.take t = (K n).data.toList.take t := by rw [← e, List.take_take, Nat.min_eq_left ht]
  have ei : ∀ i, i < n → (K i).data.toList.take t = (K n).data.toList.take t := fun i hi => by
    have hq := h.eq i 0 hi hn
    have := congrArg (List.take t) hq
    rw [List.take_take, List.take_take, Nat.min_eq_left ht] at this
    exact this.trans e0
  constructor
  · intro i hi
    by_cases h1 : i < n
    · exact Nat.le_trans ht (h.le i h1)
    · obtain rfl : i = n := by omega
      exact l2
  · intro i j hi hj
    have h1 : ∀ i, i < n + 1 → (K i).data.toList.take t = (K n).data.toList.take t := fun i hi => by
      by_cases h1 : i < n
      · exact ei i h1
      · obtain rfl : i = n := by omega
        rfl
    rw [h1 i hi, h1 j hj]

/-- byKey's own cells. -/
structure B2 (w : World) (bk kb A m c : Nat) : Prop where
  h0 : w.cell? ⟨bk, 0, none⟩ = some (.slice (some ⟨A, 0, none⟩) m c)
  h1 : w.cell? ⟨bk, 1, none⟩ = some (.slice (some ⟨kb, 0, none⟩) m m)
/-- The row of sort keys: next f, place g. -/
structure KC (w : World) (kb m : Nat) (f g : Nat → Nat) : Prop where
  c1 : ∀ t, t < m → w.cell? ⟨kb, t * 2, none⟩ = some (.int .u64 (f t : Int))
  c2 : ∀ t, t < m → w.cell? ⟨kb, t * 2 + 1, none⟩ = some (.int .i64 (g t : Int))
  fz : ∀ o, w.frozen? ⟨kb, o, none⟩ = false

def upd (f : Nat → Nat) (i x : Nat) : Nat → Nat := fun t => if t = i then x else f t
theorem upd_same (f : Nat → Nat) (i x : Nat) : upd f i x i = x := if_pos rfl
theorem upd_ne (f : Nat → Nat) {i x t : Nat} (h : t ≠ i) : upd f i x t = f t := if_neg h

variable {w : World} {bk kb A m c : Nat} {f g : Nat → Nat}
theorem KC.set1 (h : KC w kb m f g) {i : Nat} (hi : i < m) (x : Nat) : KC (w.setCell ⟨kb, i * 2, none⟩ (.int .u64 (x : Int))) kb m (upd f i x) g := by
  refine ⟨fun t ht => ?_, fun t ht => ?_, fun o => by simpa using h.fz o⟩
  · by_cases e : t = i
    · subst e; rw [upd_same]; exact cset_eq _ _ _ _ _ (h.c1 t ht)
    · rw [upd_ne f e, cset_ne _ _ _ _ _ _ (by omega)]; exact h.c1 t ht
  · rw [cset_ne _ _ _ _ _ _ (by omega)]; exact h.c2 t ht
theorem KC.set2 (h : KC w kb m f g) {i : Nat} (hi : i < m) (x : Nat) : KC (w.setCell ⟨kb, i * 2 + 1, none⟩ (.int .i64 (x : Int))) kb m f (upd g i x) := by
  refine ⟨fun t ht => ?_, fun t ht => ?_, fun o => by simpa using h.fz o⟩
  · rw [cset_ne _ _ _ _ _ _ (by omega)]; exact h.c1 t ht
  · by_cases e : t = i
    · subst e; rw [upd_same]; exact cset_eq _ _ _ _ _ (h.c2 t ht)
    · rw [upd_ne g e, cset_ne _ _ _ _ _ _ (by omega)]; exact h.c2 t ht
theorem KC.drew (h : KC w kb m f g) : KC w.drew kb m f g := ⟨h.c1, h.c2, h.fz⟩
theorem B2.set (h : B2 w bk kb A m c) (hn : bk ≠ kb) (o : Nat) (v : Value) : B2 (w.setCell ⟨kb, o, none⟩ v) bk kb A m c :=
  ⟨by rw [cset_ne _ _ _ _ _ _ (by omega)]; exact h.h0, by rw [cset_ne _ _ _ _ _ _ (by omega)]; exact h.h1⟩
theorem B2.drew (h : B2 w bk kb A m c) : B2 w.drew bk kb A m c := ⟨h.h0, h.h1⟩

theorem next_wrap (l : List UInt8) (s t : Nat) (ht : t < 8) : IntKind.u64.wrap ((nextN l s t : Int) * 256) = ((nextN l s t * 256 : Nat) : Int) := by
  have h := nextN_lt l s t
  have h2 : 256 ^ t ≤ 256 ^ 7 := Nat.pow_le_pow_right (by omega) (by omega)
  have h3 : (256 : Nat) ^ 7 = 72057594037927936 := by decide
  rw [IntKind.wrap_u64]
  omega
theorem next_or (l : List UInt8) (s t : Nat) (b : UInt8) (ht : t < 8) : bits .or .u64 ((nextN l s t * 256 : Nat) : Int) ((b.toNat : Nat) : Int) = ((nextN l s t * 256 + b.toNat : Nat) : Int) := by
  have h := nextN_lt l s t
  have h2 : 256 ^ t ≤ 256 ^ 7 := Nat.pow_le_pow_right (by omega) (by omega)
  have h3 : (256 : Nat) ^ 7 = 72057594037927936 := by decide
  have hb := b.toNat_lt
  rw [bits_or_u64_nat _ _ (by omega) (by omega)]
  congr 1
  have := Nat.shiftLeft_add_eq_or_of_lt (i := 8) (b := b.toNat) (by omega) (nextN l s t)
  rw [Nat.shiftLeft_eq] at this
  exact this.symm
theorem next_in (k : ByteArray) (s t : Nat) (h : s + t < k.size) : nextN k.data.toList s (t + 1) = nextN k.data.toList s t * 256 + (k[s + t]).toNat := by
  rw [nextN, byteAt, byte_get k (s + t) h]
  rfl
theorem next_inJ (k : ByteArray) (s J : Nat) (hs : s ≤ J) (h : J < k.size) : nextN k.data.toList s (J + 1 - s) = nextN k.data.toList s (J - s) * 256 + (k[J]).toNat := by
  obtain ⟨t, rfl⟩ : ∃ t, J = s + t := ⟨J - s, by omega⟩
  rw [show s + t + 1 - s = t + 1 by omega, show s + t - s = t by omega]
  exact next_in k s t h
theorem next_past (k : ByteArray) (s t : Nat) (h : k.size ≤ s + t) : nextN k.data.toList s (t + 1) = nextN k.data.toList s t * 256 := by
  rw [nextN, byteAt, List.getElem?_eq_none (by simpa using h)]
  rfl

theorem next_pastJ (k : ByteArray) (s J : Nat) (hs : s ≤ J) (h : k.size ≤ J) : nextN k.data.toList s (J + 1 - s) = nextN k.data.toList s (J - s) * 256 := by
  obtain ⟨t, rfl⟩ : ∃ t, J = s + t := ⟨J - s, by omega⟩
  rw [show s + t + 1 - s = t + 1 by omega, show s + t - s = t by omega]
  exact next_past k s t h

/-- What sortKeys leaves: the row of places at w.heap.size; τ i is the place of the i-th key. -/
structure Placed (w w' : World) (m : Nat) (K : Nat → ByteArray) (τ : Nat → Nat) : Prop where
  kp : Kp (fun _ => False) w w'
  more : w.heap.size < w'.heap.size
  next : ∀ i, i < m → ∃ x : Nat, w'.cell? ⟨w.heap.size, i * 2, none⟩ = some (.int .u64 (x : Int))
  at_ : ∀ i, i < m → w'.cell? ⟨w.heap.size, i * 2 + 1, none⟩ = some (.int .i64 (τ i : Int))
  lt : ∀ i, i < m → τ i < m
  inj : ∀ i j, i < m → j < m → τ i = τ j → i = j
  sur : ∀ k, k < m → ∃ i, i < m ∧ τ i = k
  asc : ∀ i j, i < j → j < m → (K (τ i)).data.toList < (K (τ j)).data.toList

theorem over8 (s : Nat) (h : ¬ s + 8 < 9223372036854775808) (h2 : s ≤ 9223372036854775807) : ¬ ((s : Int) < wrap64 ((s : Int) + 8)) := by
  unfold wrap64; omega

set_option maxHeartbeats 4000000 in
theorem sk_walk (A m c : Nat) (hb : Nat → Nat) (K : Nat → ByteArray) (w : World) (hH : Hs w A m hb K) (hm : m ≤ 1024) (hmc : m ≤ c) (hc : c < 1099511627776) (hD : ∀ i j, i < m → j < m → (K i).data.toList = (K j).data.toList → i = j) :
    Calls Yba.prog 48 #[.slice (some ⟨A, 0, none⟩) m c] w fun e w' => e = .returned (.slice (some ⟨w.heap.size, 0, none⟩) m m) ∧ ∃ τ : Nat → Nat, Hid (Placed w w' m K τ) := by
  have hml : maxLen ≤ 9223372036854775807 := by decide
  have HH : Hid (Hs w A m hb K) := hH
  clear hH
  go_enter Yba.func48, Yba.ntmps48
  go_upto_if 14 with fail
  go_cut [3] from 4 to 39 (fun s3 wx => ∃ s q : Nat, s3 = .int .i64 s ∧ Hid (Shared K m s) ∧ Hid (wx = w.drewN q))
  case first =>
    by_cases h0 : 0 < m
    · have h0z : (0 : Int) < (m : Int) := by omega
      have r0 := HH.out.row 0 h0
      have k0 := HH.out.key 0 h0
      have l0 := HH.out.len 0 h0
      have h1z : (1 : Int) ≤ (m : Int) := by omega
      have h1 : 1 ≤ m := by omega
      have hmcz : (m : Int) ≤ (c : Int) := by omega
      by_cases hc1 : c = 1
      · obtain rfl : m = 1 := by omega
        subst hc1
        go_wp2_with fail
        refine wp_loop_rounds 1 ?_
        rw [rounds_succ]
        go_wp2
        go_meet
        exact ⟨_, 0, rfl, Shared.one K, rfl⟩
      · have hm1 : ((m - 1 : Nat) : Int) = (m : Int) - 1 := by omega
        go_wp2_with fail
        go_loopw [3, 26] (fun v3 v26 wr => ∃ (s n q : Nat), v3 = .int .i64 s ∧ v26 = .int .i64 n ∧ n + 1 ≤ m ∧ s ≤ (K 0).size ∧ Hid (Shared K (n + 1) s) ∧ Hid (wr = w.drewN q)) (fun _ v _ => m - (intOf v).toNat)
        case atStart => exact ⟨(K 0).size, 0, 0, rfl, rfl, by omega, Nat.le_refl _, Shared.one K, rfl⟩
        case round =>
          obtain ⟨s, n, q, rfl, rfl, hn, hs, HS, HW⟩ := hrel
          by_cases hlt : n + 1 < m
          · have hltz : (n : Int) < (m : Int) - 1 := by omega
            have rn : wr.cell? ⟨A, 1 + n, none⟩ = some (.pointer (some ⟨hb (n + 1), 0, none⟩)) := by rw [Nat.add_comm, HW.out]; exact HH.out.row (n + 1) hlt
            have kn : wr.cell? ⟨hb (n + 1), 0, none⟩ = some (.string (K (n + 1))) := by rw [HW.out]; exact HH.out.key (n + 1) hlt
            have ln := HH.out.len (n + 1) hlt
            have hcall : ∀ w', Calls Yba.prog 57 #[.string ((K 0).extract 0 s), .string (K (n + 1))] w' fun e w'' => e = .returned (.int .i64 (cpre ((K 0).data.toList.take s) (K (n + 1)).data.toList : Nat)) ∧ ∃ q, w'' = w'.drewN q := fun w' => by
              have h := pre_walk ((K 0).extract 0 s) (K (n + 1)) (by simp; omega) ln w'
              simpa using h
            have hcl : cpre ((K 0).data.toList.take s) (K (n + 1)).data.toList ≤ (K 0).size := by
              have h := (cpre_le ((K 0).data.toList.take s) (K (n + 1)).data.toList).1
              simp at h
              omega
            go_upto_region 8 with fail
            go_quiet ((go_at_call 57; exact Calls.quiet_of (hcall _)))
            go_wp2
            go_roundw
            case rel => exact ⟨_, n + 1, _, rfl, by go_num, by omega, hcl, HS.out.step (by omega), by rw [HW.out]; exact World.drewN_drewN _ _ _⟩
            case measure => simp [intOf]; omega
          · have hltz : ¬ (n : Int) < (m : Int) - 1 := by omega
            go_wp2
            go_meet
            exact ⟨s, q, rfl, by rw [show m = n + 1 by omega]; exact HS, HW⟩
    · have h0z : ¬ (0 : Int) < (m : Int) := by omega
      go_wp2
      go_meet
      exact ⟨0, 0, rfl, ⟨fun i hi => by omega, fun i j hi => by omega⟩, rfl⟩
  case rest =>
    obtain ⟨s, q, rfl, HS, HW⟩ := hcut
    have HC : Hid (Hs wc A m hb K) := by rw [HW.out]; exact ⟨HH.out.row, HH.out.key, HH.out.len⟩
    obtain ⟨kb, hkb⟩ : ∃ kb, wc.heap.size = kb := ⟨_, rfl⟩
    obtain ⟨Z, hmk, hz1, hz2⟩ := mk188 m (by omega)
    have HZ1 : Hid (∀ j, j < m → Z[j * 2]? = some (.int .u64 0)) := hz1
    have HZ2 : Hid (∀ j, j < m → Z[j * 2 + 1]? = some (.int .i64 0)) := hz2
    clear hz1 hz2
    have hkw : w.heap.size = kb := by rw [← hkb, HW.out]; rfl
    go_upto_region 11 with fail
    have KW : Hid (Kp (fun _ => False) w ((wc.alloc (Obj.cells Z 191)).alloc (Obj.cells #[Value.slice (some ⟨A, 0, none⟩) m c, Value.slice (some ⟨kb, 0, none⟩) m m] 201))) := by
      rw [HW.out]; exact (((Kp.refl _ w).drewN q).alloc _).alloc _
    have BW : Hid (B2 ((wc.alloc (Obj.cells Z 191)).alloc (Obj.cells #[Value.slice (some ⟨A, 0, none⟩) m c, Value.slice (some ⟨kb, 0, none⟩) m m] 201)) (kb + 1) kb A m c) := by
      constructor
      · rw [World.cell?_alloc_at _ _ _ _ (by simp [hkb])]; rfl
      · rw [World.cell?_alloc_at _ _ _ _ (by simp [hkb])]; rfl
    have CW : Hid (KC ((wc.alloc (Obj.cells Z 191)).alloc (Obj.cells #[Value.slice (some ⟨A, 0, none⟩) m c, Value.slice (some ⟨kb, 0, none⟩) m m] 201)) kb m (fun _ => 0) (fun _ => 0)) := by
      have hb1 : ((wc.alloc (Obj.cells Z 191)).alloc (Obj.cells #[Value.slice (some ⟨A, 0, none⟩) m c, Value.slice (some ⟨kb, 0, none⟩) m m] 201)).heap[kb]? = (wc.alloc (Obj.cells Z 191)).heap[kb]? := Go.RowKit.Below.heap_alloc _ _ _ (by simp [hkb])
      refine ⟨fun t ht => ?_, fun t ht => ?_, fun o => ?_⟩
      · rw [World.cell?_of_block hb1, World.cell?_alloc_at _ _ _ _ (by simp [hkb])]; exact HZ1.out t ht
      · rw [World.cell?_of_block hb1, World.cell?_alloc_at _ _ _ _ (by simp [hkb])]; exact HZ2.out t ht
      · rw [World.frozen?_of_block hb1]; exact World.frozen?_alloc_at _ _ _ _ (by simp [hkb])
    generalize (wc.alloc (Obj.cells Z 191)).alloc (Obj.cells #[Value.slice (some ⟨A, 0, none⟩) m c, Value.slice (some ⟨kb, 0, none⟩) m m] 201) = w1 at *
    clear HC HW hmk HZ1 HZ2 hkb
    have HTR : Hid (∀ wx, Kp (fun _ => False) w wx → Hs wx A m hb K) := fun wx kp => ⟨fun i hi => kp.cell id (HH.out.row i hi), fun i hi => kp.cell id (HH.out.key i hi), HH.out.len⟩
    obtain ⟨T, hT⟩ : ∃ T : Nat, T = if s + 8 < 9223372036854775808 then 8 else 0 := ⟨_, rfl⟩
    go_upto_block 2 with fail
    go_cut [46] from 8 to 94 (fun s46 wx => Hid (Kp (fun _ => False) w wx) ∧ Hid (B2 wx (kb + 1) kb A m c) ∧ ∃ f g : Nat → Nat, Hid (KC wx kb m f g) ∧ Hid (∀ t, t < m → f t = nextN (K t).data.toList s T ∧ g t = t))
    case first =>
      go_wp2_with fail
      go_loopw [46] (fun v wr => ∃ (i : Nat) (f g : Nat → Nat), v = .int .i64 i ∧ i ≤ m ∧ Hid (Kp (fun _ => False) w wr) ∧ Hid (B2 wr (kb + 1) kb A m c) ∧ Hid (KC wr kb m f g) ∧ Hid (∀ t, t < i → f t = nextN (K t).data.toList s T ∧ g t = t) ∧ Hid (∀ t, i ≤ t → f t = 0)) (fun v _ => m + 1 - (intOf v).toNat)
      case atStart => exact ⟨0, _, _, rfl, Nat.zero_le _, KW, BW, CW, fun t ht => by omega, fun t ht => rfl⟩
      case round =>
        clear KW BW CW
        obtain ⟨i, f, g, rfl, hi, KW, BW, CW, HF, H0⟩ := hrel
        by_cases hlt : i < m
        · have hltz : (i : Int) < (m : Int) := by omega
          have hs := HTR.out _ KW.out
          have r1 := hs.row i hlt
          have b1 := BW.out.h1
          have c2 := CW.out.c2 i hlt
          have hf := CW.out.fz
          clear hs
          go_upto_region 16 with fail
          have KX : Hid (Kp (fun _ => False) w (wr.setCell ⟨kb, i * 2 + 1, none⟩ (.int .i64 (i : Int)))) := KW.out.set (Or.inr (Nat.le_of_eq hkw)) _
          have BX : Hid (B2 (wr.setCell ⟨kb, i * 2 + 1, none⟩ (.int .i64 (i : Int))) (kb + 1) kb A m c) := BW.out.set (by omega) _ _
          have CX : Hid (KC (wr.setCell ⟨kb, i * 2 + 1, none⟩ (.int .i64 (i : Int))) kb m f (upd g i i)) := CW.out.set2 hlt i
          clear KW BW CW b1 c2 hf
          generalize wr.setCell ⟨kb, i * 2 + 1, none⟩ (.int .i64 (i : Int)) = w2 at *
          by_cases h8 : s + 8 < 9223372036854775808
          · obtain rfl : T = 8 := by rw [hT, if_pos h8]
            have h8z : (s : Int) + 8 < 9223372036854775808 := by omega
            clear hT
            go_wp2_with fail
            go_loopw [11] (fun v wr => ∃ (J : Nat) (f' : Nat → Nat), v = .int .i64 (J : Int) ∧ s ≤ J ∧ J ≤ s + 8 ∧ Hid (Kp (fun _ => False) w wr) ∧ Hid (B2 wr (kb + 1) kb A m c) ∧ Hid (KC wr kb m f' (upd g i i)) ∧ Hid (f' i = nextN (K i).data.toList s (J - s)) ∧ Hid (∀ t, t ≠ i → f' t = f t)) (fun v _ => s + 9 - (intOf v).toNat)
            case atStart => exact ⟨s, f, rfl, Nat.le_refl _, by omega, KX, BX, CX, by rw [Nat.sub_self]; exact H0.out i (Nat.le_refl _), fun t _ => rfl⟩
            case round =>
              clear KX BX CX r1
              obtain ⟨J, f', rfl, hJ1, hJ2, KX, BX, CX, HX, HO⟩ := hrel
              by_cases ht8 : J < s + 8
              · have hc : (J : Int) < (s : Int) + 8 := by omega
                have k1 := (HTR.out _ KX.out).key i hlt
                have hne : hb i < kb := by rw [← hkw]; exact block_lt_of_cell (HH.out.key i hlt)
                have hne1 : ¬ (hb i = kb) := by omega
                have hne2 : ¬ (kb = hb i) := by omega
                have x1 := CX.out.c1 i hlt
                rw [HX.out] at x1
                have hf := CX.out.fz
                have hwr := next_wrap (K i).data.toList s (J - s) (by omega)
                have hor := fun b => next_or (K i).data.toList s (J - s) b (by omega)
                have HIN : Hid (∀ h : J < (K i).size, nextN (K i).data.toList s (J + 1 - s) = nextN (K i).data.toList s (J - s) * 256 + ((K i)[J]).toNat) := fun h => next_inJ (K i) s J hJ1 h
                have HPA : Hid ((K i).size ≤ J → nextN (K i).data.toList s (J + 1 - s) = nextN (K i).data.toList s (J - s) * 256) := fun h => next_pastJ (K i) s J hJ1 h
                obtain ⟨X, hX⟩ : ∃ X, X = nextN (K i).data.toList s (J - s) := ⟨_, rfl⟩
                rw [← hX] at x1
                have HOR : Hid (∀ b : UInt8, bits .or .u64 ((X : Int) * 256) (IntKind.u64.wrap ((b.toNat : Nat) : Int)) = ((X * 256 + b.toNat : Nat) : Int)) := fun b => by
                  have h := hor b
                  have hb := b.toNat_lt
                  rw [← hX] at h
                  rw [IntKind.wrap_u64, show ((b.toNat : Nat) : Int) % 18446744073709551616 = ((b.toNat : Nat) : Int) by omega]
                  rw [← h]; push_cast; rfl
                clear hor
                have hxl : X < 72057594037927936 := by
                  have h := nextN_lt (K i).data.toList s (J - s)
                  have h2 : 256 ^ (J - s) ≤ 256 ^ 7 := Nat.pow_le_pow_right (by omega) (by omega)
                  have h3 : (256 : Nat) ^ 7 = 72057594037927936 := by decide
                  omega
                clear hwr
                have HEY : Hid (nextN (K i).data.toList s (J - s) = X) := hX.symm
                clear hX
                by_cases hk : J < (K i).size
                · have hkz : (J : Int) < ((K i).size : Int) := by omega
                  go_upto_region 21 with fail
                  go_region
                  all_goals go_wp2
                  all_goals go_roundw
                  case rel =>
                    rw [HOR.out]
                    exact ⟨J + 1, _, by go_num, by omega, by omega, ((KX.out.set (Or.inr (Nat.le_of_eq hkw)) _).set (Or.inr (Nat.le_of_eq hkw)) _).drew, ((BX.out.set (by omega) _ _).set (by omega) _ _).drew, (KC.set1 (by have := CX.out.set1 hlt (X * 256); push_cast at this; exact this) hlt _).drew, by rw [upd_same, HIN.out hk, HEY.out]; exact rfl, fun t ht => by rw [upd_ne _ ht, upd_ne _ ht]; exact HO.out t ht⟩
                  case measure => simp [intOf]; omega
                · have hkz : ¬ (J : Int) < ((K i).size : Int) := by omega
                  go_wp2
                  go_roundw
                  case rel => exact ⟨J + 1, _, by go_num, by omega, by omega, KX.out.set (Or.inr (Nat.le_of_eq hkw)) _, BX.out.set (by omega) _ _, by have := CX.out.set1 hlt (X * 256); push_cast at this; exact this, by rw [upd_same, HPA.out (by omega), HEY.out]; exact rfl, fun t ht => by rw [upd_ne _ ht]; exact HO.out t ht⟩
                  case measure => simp [intOf]; omega
              · have hc : ¬ (J : Int) < (s : Int) + 8 := by omega
                obtain rfl : J = s + 8 := by omega
                go_wp2
                go_roundw
                case rel => exact ⟨i + 1, f', _, by go_num, by omega, KX, BX, CX, fun t ht => by
                                    by_cases e : t = i
                                    · subst e; exact ⟨by rw [HX.out, Nat.add_sub_cancel_left], upd_same _ _ _⟩
                                    · rw [upd_ne _ e, HO.out t e]; exact HF.out t (by omega), fun t ht => by rw [HO.out t (by omega)]; exact H0.out t (by omega)⟩
                case measure => simp [intOf]; omega
          · obtain rfl : T = 0 := by rw [hT, if_neg h8]
            clear hT
            have hle := HS.out.le i hlt
            have hll := (HTR.out _ KX.out).len i hlt
            have hsz : (K i).data.toList.length = (K i).size := by simp
            obtain ⟨E, hE⟩ : ∃ E : Int, wrap64 ((s : Int) + 8) = E := ⟨_, rfl⟩
            have hE2 : IntKind.i64.wrap ((s : Int) + 8) = E := by rw [← hE]; exact Go.IntWalk.i64_left _
            have hng : ¬ ((s : Int) < E) := by rw [← hE]; exact over8 s h8 (by omega)
            clear hsz hle hll h8
            go_wp2_with fail
            refine wp_loop_rounds 1 ?_
            rw [rounds_succ]
            go_wp2
            go_roundw
            case rel => exact ⟨i + 1, f, _, by go_num, by omega, KX, BX, CX, fun t ht => by
                                by_cases e : t = i
                                · subst e; exact ⟨H0.out t (Nat.le_refl _), upd_same _ _ _⟩
                                · rw [upd_ne _ e]; exact HF.out t (by omega), fun t ht => H0.out t (by omega)⟩
            case measure => simp [intOf]; omega
        · have hltz : ¬ (i : Int) < (m : Int) := by omega
          go_wp2
          go_meet
          exact ⟨KW, BW, f, g, CW, fun t ht => HF.out t (by omega)⟩
    case rest =>
      clear KW BW CW
      obtain ⟨KW, BW, f, g, CW, HF⟩ := hcut
      have hlw : kb < wc.heap.size ∧ kb + 1 < wc.heap.size := ⟨Nat.lt_trans (Nat.lt_succ_self _) (block_lt_of_cell BW.out.h0), block_lt_of_cell BW.out.h0⟩
      have hs := HTR.out _ KW.out
      have EK : Hid (Keyd wc (kb + 1) kb A m c hb K) := by
        refine ⟨BW.out.h0, BW.out.h1, hs.row, hs.key, by omega, ?_, ?_, hlw.1, by omega⟩
        · intro i hi
          have : A < w.heap.size := block_lt_of_cell (HH.out.row i hi)
          omega
        · intro i hi
          have : hb i < w.heap.size := block_lt_of_cell (HH.out.key i hi)
          omega
      have ES : Hid (SK wc kb m (row0 (fun i => (K i).data.toList) s T m) wc) := by
        refine ⟨row0_size _ _ _ _, Kp.refl _ _, fun i hi => ?_, fun i hi => ?_, CW.out.fz, fun i hi => ?_⟩
        · rw [row0_get _ _ _ _ _ hi, CW.out.c1 i hi, (HF.out i hi).1]
        · rw [row0_get _ _ _ _ _ hi, CW.out.c2 i hi, (HF.out i hi).2]
        · rw [row0_get _ _ _ _ _ hi]; exact hi
      clear hs
      have hrun := sort_walk EK.out.env _ wc ES.out
      go_upto_region 24 with (go_at_call 58; refine hrun.mono ?_; rintro e w3 ⟨rfl, d, HP, HO, HS3⟩)
      clear hrun
      have b1 := HS3.out.kp.cell (b := kb + 1) (by omega) BW.out.h1
      go_wp2
      go_ret
      subst hkw
      have z := sorted_keys (fun i => (K i).data.toList) s T m HS.out.le HS.out.eq hD d HP.out HO.out
      obtain ⟨z1, z2, z3, z4, z5⟩ := z
      refine ⟨rfl, fun i => (d[i]!).2, ?_, ?_, ?_, ?_, z2, z3, z4, z5⟩
      · exact KW.out.trans' HS3.out.kp fun b hb e => by omega
      · exact Nat.lt_of_lt_of_le hlw.1 HS3.out.kp.size
      · exact fun i hi => ⟨_, HS3.out.c1 i hi⟩
      · exact fun i hi => HS3.out.c2 i hi

end Go.Proofs.Ybulkaixg.Ord
