/-
  zzs1736cbuild (5), alarmed.
-/
import Derived.Test.YbulkaixuBI
namespace Go.Proofs.Ybulkaixu.Cnt
open Go.RowKit
set_option linter.unusedVariables false
set_option linter.unusedSimpArgs false
set_option maxRecDepth 100000

/-- The slice holds the n bools lf. -/
def LiveS (w : World) (a0 : Option Addr) (n : Nat) (lf : Nat → Bool) : Prop := ∀ i, i < n → ∃ x, a0 = some x ∧ w.cell? (x.add i) = some (.bool (lf i))

theorem cell_lt {w : World} {a : Addr} {v : Value} (h : w.cell? a = some v) : a.block < w.heap.size := by
  rcases Nat.lt_or_ge a.block w.heap.size with h' | h'
  · exact h'
  · simp [World.cell?, Array.getElem?_eq_none h'] at h

theorem LiveS.keep {w w' : World} {a0 : Option Addr} {n : Nat} {lf : Nat → Bool} (h : LiveS w a0 n lf) (hb : Below w.heap.size w w') : LiveS w' a0 n lf := by
  intro i hi
  obtain ⟨x, e, hc⟩ := h i hi
  exact ⟨x, e, (hb.cell (p := x.add i) (cell_lt hc)).trans hc⟩

theorem ded_succ (lf : Nat → Bool) (i : Nat) : ded lf (List.range (i + 1)) = ded lf (List.range i) + (if lf i = true then 0 else 1) := by
  rw [List.range_succ, ded_append]
  cases h : lf i <;> simp [ded, h]
theorem ded_range_le (lf : Nat → Bool) (i : Nat) : ded lf (List.range i) ≤ i := by
  have := List.length_filter_le (fun i => !lf i) (List.range i)
  simpa [ded] using this

/-- Live in the end: as the input says, but the last one is made to end where all are live. -/
def lvE (lf : Nat → Bool) (n : Nat) (frc : Bool) : Nat → Bool := fun i => if frc = true ∧ i + 1 = n then false else lf i

theorem run_make (W : World) (h n : Nat) (hh : h ≤ 3) (hn : n ≤ 1024) : ∃ w', (Instr.makeSlice 27 (.int .i64 (h : Int)) (.int .i64 ((h : Int) + (n : Int)))).run Yba.prog W = .ok (.slice (some ⟨W.heap.size, 0, none⟩) h (h + n)) w' ∧ Fr [] W w' ∧ W.heap.size < w'.heap.size ∧
    ∀ j, j < (h + n) * 5 → (w'.cell? ⟨W.heap.size, j, none⟩).isSome = true ∧ w'.frozen? ⟨W.heap.size, j, none⟩ = false := by
  obtain ⟨i, z, hi, hz, his, hib, hzs⟩ := info40
  have hby : ((i.bytes : Nat) : Int) * ((h : Int) + (n : Int)) ≤ 281474976710656 := by
    have h1 : i.bytes * (h + n) ≤ 100 * 1027 := Nat.mul_le_mul hib (by omega)
    have h2 : ((i.bytes * (h + n) : Nat) : Int) = (i.bytes : Int) * ((h : Int) + (n : Int)) := by rw [Int.natCast_mul, Int.natCast_add]
    omega
  have ht : ((h : Int) + (n : Int)).toNat = h + n := by omega
  have hrun := run_makeSlice (P := Yba.prog) W 27 40 i z Yba.underlying27 hi hz .i64 .i64 (h : Int) ((h : Int) + (n : Int)) (by omega) (by omega) (by rw [ht, his]; omega) hby (by omega)
  rw [ht, his, Int.toNat_natCast] at hrun
  refine ⟨_, hrun, Fr.alloc _ _, by simp, fun j hj => ⟨?_, ?_⟩⟩
  · rw [World.cell?_alloc_at _ _ _ _ rfl]
    have hs := size_madeCells z.cells ((h + n) * 5)
    simp [hs, hj]
  · exact World.frozen?_alloc_at _ _ _ _ rfl

theorem Fr.fresh {bs : List Nat} {w0 w1 w2 : World} (h : Fr [] w0 w1) (k : Fr bs w1 w2) (hb : ∀ b, b ∈ bs → w0.heap.size ≤ b) : Fr [] w0 w2 :=
  ⟨k.os.trans h.os, k.tape.trans h.tape, k.output.trans h.output, Nat.le_trans h.size k.size, fun j hj _ => (k.block j (Nat.lt_of_lt_of_le hj h.size) (fun e => by have := hb j e; omega)).trans (h.block j hj (by simp))⟩

theorem new_cells_upd (sb : Nat → Nat) (i S : Nat) (w : World) : ∀ q, q < 5 → (w.alloc (.cells #[.int .u64 0, .int .i64 0, .pointer none, .int .u64 ((i : Int) + 1), .pointer (some ⟨S, 0, none⟩)] 40)).cell? ⟨w.heap.size, q, none⟩ = some (elem (upd sb i S) i q) := by
  have h := new_cells (upd sb i S) i w
  rw [upd_same] at h
  exact h

theorem ded_congr {f f' : Nat → Bool} : ∀ k, (∀ i, i < k → f i = f' i) → ded f (List.range k) = ded f' (List.range k)
  | 0, _ => rfl
  | k + 1, h => by rw [ded_succ, ded_succ, ded_congr k (fun i hi => h i (by omega)), h k (by omega)]

theorem ded_forced {lf : Nat → Bool} {n : Nat} (h0 : ded lf (List.range n) = 0) (hn : 0 < n) : ded (lvE lf n true) (List.range n) = 1 := by
  obtain ⟨m, rfl⟩ : ∃ m, n = m + 1 := ⟨n - 1, by omega⟩
  rw [ded_succ] at h0 ⊢
  rw [ded_congr (f' := lf) m (fun i hi => by simp only [lvE]; rw [if_neg (by omega)])]
  have : lvE lf (m + 1) true m = false := by simp [lvE]
  rw [this]
  simp
  omega
theorem ded_free (lf : Nat → Bool) (n : Nat) : ded (lvE lf n false) (List.range n) = ded lf (List.range n) := ded_congr n (fun i hi => by simp [lvE])

/-- What zzs1736cbuild leaves: the alarm at block A, the live states lvv. -/
def Built (w : World) (A : Nat) (lvv : Value) (w' : World) : Prop :=
  ∃ (g h n cap : Nat) (sb : Nat → Nat) (lvf : Nat → Bool) (e : Nat), Ord w' A g h cap (List.range n) sb e ∧ Sts w' g A sb lvf n ∧ PRow w' lvv (flv lvf n).length (fun j => .pointer (some ⟨sb ((flv lvf n).getD j 0), 0, none⟩)) ∧
    (e + 1 = ded lvf (List.range n) ∨ (List.range n = [] ∧ e + 1 = 1)) ∧ e ≤ 4000 ∧ n ≤ 1024 ∧ (∀ b, lvv.ownBlock = some b → g < b ∧ b < A) ∧ w.heap.size ≤ g ∧ Below w.heap.size w w'

theorem mkBuilt {w : World} {g h n : Nat} {sb : Nat → Nat} {blk : List Nat} {lvf : Nat → Bool} {lvv : Value} {wx : World} (H : BI w g g h n n n n sb blk lvf lvv wx) (hg : g = w.heap.size) (hh : h ≤ 3) (hn : n ≤ 1024) (e : Nat) (he : e ≤ 4000) (hc : e + 1 = ded lvf (List.range n) ∨ (List.range n = [] ∧ e + 1 = 1)) :
    Built w wx.heap.size lvv (wx.alloc (.cells #[.slice (some ⟨g, 0, none⟩) (h + n) (h + n), .int .i64 (h : Int), .slice none 0 0, .int .i64 (e : Int), .pointer none, .int .u64 0, .int .i64 0, .pointer none] 37)) := by
  have f : Fr [] wx (wx.alloc (.cells #[.slice (some ⟨g, 0, none⟩) (h + n) (h + n), .int .i64 (h : Int), .slice none 0 0, .int .i64 (e : Int), .pointer none, .int .u64 0, .int .i64 0, .pointer none] 37)) := Fr.alloc _ _
  have H' := H.keep f (by intro b hb; simp at hb)
  have hlg := H.lg
  refine ⟨g, h, n, h + n, sb, lvf, e, ⟨by simp, by simp, by simp, by simp, by simp, by simp, by simp, by simp, by simp, by omega, H'.lg, hlg, H'.sp, ?_⟩, (H.toSts wx.heap.size (Nat.le_refl _)).keep f (by simp), H'.lv, hc, he, hn, fun b hb => ⟨(H.lvb b hb).1, (H.lvb b hb).2.1⟩, by omega, by rw [← hg]; exact H'.bel⟩
  intro t i ht q hq
  have htl := (List.getElem?_eq_some_iff.1 ht).1
  simp at htl
  rw [List.getElem?_range htl] at ht
  cases ht
  exact H'.run t htl q hq

set_option maxHeartbeats 1600000 in
theorem build_any (a0 : Option Addr) (n cap0 : Nat) (lf : Nat → Bool) (lead : Nat) (w : World) (hA : LiveS w a0 n lf) (hn : n ≤ 1024) (hl : lead ≤ 255) :
    Calls Yba.prog 5 #[.slice a0 n cap0, .int .u8 (lead : Nat), .bool true] w fun r w' => ∃ A lvv, r = .returned (.tuple #[.pointer (some ⟨A, 0, none⟩), lvv]) ∧ Built w A lvv w' := by
  have HA := (show Hid (LiveS w a0 n lf) from hA)
  have hn' : (n : Int) ≤ 1024 := by omega
  clear hA
  go_enter Yba.func5, Yba.ntmps5
  go_upto_block 0 with fail
  go_cut [9, 11, 26] from 27 to 34 (fun d b c wx => d = .int .i64 (ded lf (List.range n) : Nat) ∧ w = wx)
  case first =>
    go_wp2_with fail
    go_loopg [9, 11, 26] n (fun k d b c wx => ∃ i : Nat, c = .int .i64 (i : Nat) ∧ k + i = n ∧ d = .int .i64 (ded lf (List.range i) : Nat) ∧ w = wx)
    case atStart =>
      exact ⟨0, rfl, by omega, rfl, rfl⟩
    case round =>
      obtain ⟨i, rfl, hk, rfl, rfl⟩ := hrel
      have hle := ded_range_le lf i
      obtain ⟨dd, hdd⟩ : ∃ dd, dd = ded lf (List.range i) := ⟨_, rfl⟩
      rw [← hdd] at hle ⊢
      have HDD := (show Hid (dd = ded lf (List.range i)) from hdd)
      clear hdd
      by_cases hi : i < n
      · have hi' : (i : Int) < n := by omega
        obtain ⟨x, hx, ha⟩ := HA.out i hi
        subst hx
        have hs := ded_succ lf i
        rw [← HDD.out] at hs
        have HSU := (show Hid (ded lf (List.range (i + 1)) = dd + (if lf i = true then 0 else 1)) from hs)
        clear hs
        by_cases hb : lf i = true
        · rw [hb] at ha
          go_wp2
          go_roundg (gk - 1)
          case measure => omega
          case rel =>
            have h := HSU.out
            rw [if_pos hb] at h
            refine ⟨i + 1, by simp, by omega, ?_, rfl⟩
            rw [h]
            simp
        · have hbf : lf i = false := by simpa using hb
          rw [hbf] at ha
          go_wp2
          go_roundg (gk - 1)
          case measure => omega
          case rel =>
            have h := HSU.out
            rw [if_neg hb] at h
            refine ⟨i + 1, by simp, by omega, ?_, rfl⟩
            rw [h]
            simp
      · have hi' : ¬ (i : Int) < n := by omega
        have hin : i = n := by omega
        have HIN := (show Hid (i = n) from hin)
        clear hin hk
        go_wp2
        go_meet
        refine ⟨?_, rfl⟩
        rw [HDD.out, HIN.out]
  case rest =>
  obtain ⟨rfl, rfl⟩ := hcut
  obtain ⟨dd, hdd⟩ : ∃ dd, dd = ded lf (List.range n) := ⟨_, rfl⟩
  rw [← hdd]
  have hddl : dd ≤ n := by rw [hdd]; exact ded_range_le lf n
  have HDD := (show Hid (dd = ded lf (List.range n)) from hdd)
  clear hdd
  go_upto_region 9 with fail
  go_cut [12] from 35 to 43 (fun f wx => f = .bool (decide (dd = 0 ∧ 0 < n)) ∧ w = wx)
  case first =>
    by_cases h0 : dd = 0
    · subst h0
      by_cases h1 : n = 0
      · clear HA HDD
        subst h1
        go_wp2
        go_meet
        exact ⟨by simp, rfl⟩
      · have h2 : 0 < n := by omega
        have h2' : (0 : Int) < (n : Int) := by omega
        go_wp2
        go_meet
        exact ⟨by simp [h2], rfl⟩
    · have h2 : ¬ ((dd : Nat) : Int) = 0 := by omega
      go_wp2
      go_meet
      exact ⟨by simp [h0], rfl⟩
  case rest =>
  obtain ⟨rfl, rfl⟩ := hcut
  obtain ⟨frc, hfrc⟩ : ∃ frc, frc = decide (dd = 0 ∧ 0 < n) := ⟨_, rfl⟩
  rw [← hfrc]
  have HFR := (show Hid (frc = decide (dd = 0 ∧ 0 < n)) from hfrc)
  clear hfrc
  go_upto_region 10 with fail
  go_cut [13] from 44 to 46 (fun f wx => (∃ h : Nat, f = .int .i64 (h : Nat) ∧ h ≤ 3) ∧ w = wx)
  case first =>
    go_wp2
    go_meet
    refine ⟨⟨lead % 4, ?_, by omega⟩, rfl⟩
    simp
  case rest =>
  obtain ⟨⟨h, rfl, hh⟩, rfl⟩ := hcut
  obtain ⟨w1, hmk, f1, s1, hsp⟩ := run_make w h n hh hn
  obtain ⟨g, hg⟩ : ∃ g, g = w.heap.size := ⟨_, rfl⟩
  rw [← hg] at hmk hsp s1
  obtain ⟨lvf, hlvf⟩ : ∃ lvf, lvf = lvE lf n frc := ⟨_, rfl⟩
  have hI : BI w g g h n 0 0 0 (fun _ => 0) [] lvf (.slice none 0 0) w1 :=
    ⟨hsp, s1, fun t ht => by omega, fun i hi => by omega, fun b hb => by simp at hb, Or.inl ⟨rfl, rfl⟩, fun b hb => (by cases hb), (by rw [hg]; exact f1.under (by simp) (Nat.le_refl _)), Nat.le_refl _⟩
  have HI := (show Hid (BI w g g h n 0 0 0 (fun _ => 0) [] lvf (.slice none 0 0) w1) from hI)
  have HLV := (show Hid (lvf = lvE lf n frc) from hlvf)
  have HG := (show Hid (g = w.heap.size) from hg)
  clear hI hlvf hg hsp f1 s1
  go_upto_block 2 with fail
  go_cut [14, 15, 16, 17, 18, 19, 54] from 55 to 89 (fun r lv i b st sq c wx => r = .slice (some ⟨g, 0, none⟩) (h + n) (h + n) ∧ ∃ sb blk, BI w g g h n n n n sb blk lvf lv wx)
  case first =>
    go_wp2_with fail
    go_loopg [14, 15, 16, 17, 18, 19, 54] n (fun k r lv i_ b st sq c wr => ∃ (i : Nat) (sb : Nat → Nat) (blk : List Nat), c = .int .i64 (i : Nat) ∧ k + i = n ∧ r = .slice (some ⟨g, 0, none⟩) (h + i) (h + n) ∧ BI w g g h n i i i sb blk lvf lv wr)
    case atStart =>
      exact ⟨0, _, _, rfl, by omega, rfl, HI.out⟩
    case round =>
      obtain ⟨i, sb, blk, rfl, hk, rfl, hI⟩ := hrel
      obtain ⟨la, lc, hlv⟩ := hI.lv.slice
      subst hlv
      obtain ⟨kl, hkl⟩ : ∃ kl, kl = (flv lvf i).length := ⟨_, rfl⟩
      rw [← hkl] at hI ⊢
      clear HI
      have HI := (show Hid (BI w g g h n i i i sb blk lvf (.slice la kl lc) wr) from hI)
      have HKL := (show Hid (kl = (flv lvf i).length) from hkl)
      clear hI hkl
      by_cases hi : i < n
      · have hi' : (i : Int) < n := by omega
        obtain ⟨x, hx, ha⟩ := (HA.out.keep (HG.out ▸ HI.out.bel)) i hi
        subst hx
        obtain ⟨Z, hb0, _, hz9, hzs⟩ := state0
        go_upto_region 18 with fail
        obtain ⟨S, hS⟩ : ∃ S, S = wr.heap.size := ⟨_, rfl⟩
        obtain ⟨w2, hw2⟩ : ∃ w2, w2 = wr.alloc (.cells Z 57) := ⟨_, rfl⟩
        rw [← hw2, ← hS]
        have f2 : Fr [] wr w2 := by rw [hw2]; exact Fr.alloc _ _
        have s2 : w2.heap.size = S + 1 := by rw [hw2, hS]; simp
        have q9 : w2.cell? ⟨S, 9, none⟩ = some (.pointer none) := by rw [hw2, hS]; simp [hz9]
        have z9 : w2.frozen? ⟨S, 9, none⟩ = false := by rw [hw2, hS]; simp
        have HF2 := (show Hid (Fr [] wr w2) from f2)
        have HS := (show Hid (S = wr.heap.size) from hS)
        clear hw2 hS f2 hb0 hz9 hzs ha
        go_cut [70] from 64 to 70 (fun t wx => t = .bool (decide (frc = true ∧ i + 1 = n)) ∧ w2 = wx)
        case first =>
          clear HLV HFR
          cases frc with
          | false =>
            go_wp2
            go_meet
            exact ⟨by simp, rfl⟩
          | true =>
            go_wp2
            go_meet
            refine ⟨?_, rfl⟩
            congr 1
            apply decide_eq_decide.2
            constructor
            · intro hh; exact ⟨trivial, by omega⟩
            · intro hh; have := hh.2; omega
        case rest =>
        obtain ⟨rfl, rfl⟩ := hcut
        go_upto_if 70 with fail
        go_cut [17] from 64 to 70 (fun b wx => b = .bool (lvf i) ∧ w2 = wx)
        case first =>
          have hlv := HLV.out
          by_cases hc : frc = true ∧ i + 1 = n
          · have hv : lvf i = false := by rw [hlv]; simp [lvE, hc]
            have HVV := (show Hid (lvf i = false) from hv)
            have hd : decide (frc = true ∧ i + 1 = n) = true := by simpa using hc
            have HCC := (show Hid (frc = true ∧ i + 1 = n) from hc)
            clear hc hlv hv
            rw [hd]
            clear hd
            go_wp2
            go_meet
            exact ⟨by rw [HVV.out], rfl⟩
          · have hv : lvf i = lf i := by rw [hlv]; simp only [lvE]; rw [if_neg hc]
            have HVV := (show Hid (lvf i = lf i) from hv)
            have hd : decide (frc = true ∧ i + 1 = n) = false := by simpa using hc
            clear hc hlv hv
            rw [hd]
            clear hd
            go_wp2
            go_meet
            exact ⟨by rw [HVV.out], rfl⟩
        case rest =>
        obtain ⟨rfl, rfl⟩ := hcut
        go_upto_if 71 with fail
        go_cut [15, 17] from 71 to 82 (fun lv b wx => ∃ blk', BI w g g h n i (i + 1) (i + 1) (upd sb i S) blk' lvf lv wx)
        case first =>
          by_cases hv : lvf i = true
          · rw [hv]
            go_upto_region 22 with fail
            obtain ⟨w3, hw3⟩ : ∃ w3, w3 = (w2.setCell ⟨S, 9, none⟩ (.pointer (some ⟨S + 1, 0, none⟩))).alloc (.cells #[.pointer none, .int .u64 ((i : Int) + 1), .bool false, .int .u8 0, .int .u8 0, .int .u8 0, .bool false, .bool false, .bool false, .int .u64 0, .int .u64 0, .int .u64 0, .int .u16 0, .nilIface, .pointer none, .chan none, .pointer none, .pointer none] 80) := ⟨_, rfl⟩
            rw [← hw3]
            have hSl := HS.out
            have fs : Fr [S] w2 w3 := by rw [hw3]; exact (Fr.set _ (by simp) _).trans (Fr.alloc _ _)
            have f3 : Fr [] wr w3 := Fr.fresh HF2.out fs (by intro b hb; simp at hb; omega)
            have s3 : w3.heap.size = S + 2 := by rw [hw3]; simp [s2]
            have r9 : w3.cell? ⟨S, 9, none⟩ = some (.pointer (some ⟨S + 1, 0, none⟩)) := by
              rw [hw3, World.cell?_alloc_past _ _ _ (by simp; omega)]
              exact World.cell?_setCell_same _ _ _ q9
            have r1 : w3.cell? ⟨S + 1, 1, none⟩ = some (.int .u64 ((i + 1 : Nat) : Int)) := by
              rw [hw3, World.cell?_alloc_at _ _ _ _ (by simp; omega)]
              simp
            obtain ⟨blk', hst⟩ := HI.out.state f3 S (by omega) (by omega) (Nat.le_refl _) (Nat.le_refl _) (Or.inr ⟨hv, S + 1, by omega, by omega, r9, r1⟩)
            have hst4 := hst.keep (Fr.alloc w3 (.cells #[.pointer (some ⟨S, 0, none⟩)] 38)) (bs := []) (by intro b hb; simp at hb)
            have hrow := hst4.lv
            have hle := flv_le lvf i
            rw [← HKL.out] at hrow hle
            have hk4 : kl ≤ 4000 := by omega
            have hnc : (w3.alloc (.cells #[.pointer (some ⟨S, 0, none⟩)] 38)).cell? ((⟨w3.heap.size, 0, none⟩ : Addr).add 0) = some (.pointer (some ⟨S, 0, none⟩)) := by rw [Addr.add_lit]; simp
            have HST := (show Hid (BI w g g h n i (i + 1) i (upd sb i S) blk' lvf (.slice la kl lc) (w3.alloc (.cells #[.pointer (some ⟨S, 0, none⟩)] 38))) from hst4)
            have HRO := (show Hid (PRow (w3.alloc (.cells #[.pointer (some ⟨S, 0, none⟩)] 38)) (.slice la kl lc) kl (fun j => .pointer (some ⟨upd sb i S ((flv lvf i).getD j 0), 0, none⟩))) from hrow)
            have HVV := (show Hid (lvf i = true) from hv)
            have HNC := (show Hid ((w3.alloc (.cells #[.pointer (some ⟨S, 0, none⟩)] 38)).cell? ((⟨w3.heap.size, 0, none⟩ : Addr).add 0) = some (.pointer (some ⟨S, 0, none⟩))) from hnc)
            clear hw3 fs f3 s3 r9 r1 hst hst4 hrow hle hnc hv hSl
            go_wp2_with (at_builtin; refine wpList_ptr rfl (.tmp 79) (.tmp 81) rfl (.slice la kl lc) kl _ rfl HRO.out hk4 ⟨w3.heap.size, 0, none⟩ 1 (.pointer (some ⟨S, 0, none⟩)) rfl HNC.out rfl ?_; intro v' w4 h1 h2 h3)
            go_meet
            have hkl := HKL.out
            rw [hkl] at h1
            refine ⟨blk', HST.out.lvnext HVV.out h2 ?_ h3⟩
            rw [upd_same]
            exact h1
          · have hvf : lvf i = false := by simpa using hv
            rw [hvf]
            clear hv
            have hst := HI.out.state HF2.out S (by rw [HS.out]; exact Nat.le_refl _) (by omega) (Nat.le_refl _) (Nat.le_refl _) (Or.inl ⟨hvf, q9⟩)
            have HST := (show Hid (∃ blk', BI w g g h n i (i + 1) i (upd sb i S) blk' lvf (.slice la kl lc) w2) from hst)
            have HVF := (show Hid (lvf i = false) from hvf)
            clear hst hvf
            go_wp2
            go_meet
            obtain ⟨blk', h⟩ := HST.out
            exact ⟨blk', h.lvskip HVF.out⟩
        case rest =>
        obtain ⟨blk', hI5⟩ := hcut
        obtain ⟨w5, hw5⟩ : ∃ w5, w5 = wc := ⟨_, rfl⟩
        rw [← hw5] at hI5 ⊢
        clear hw5
        have hI6 := hI5.keep (Fr.alloc w5 (.cells #[.int .u64 0, .int .i64 0, .pointer none, .int .u64 ((i : Int) + 1), .pointer (some ⟨S, 0, none⟩)] 40)) (bs := []) (by intro b hb; simp at hb)
        have HI6 := (show Hid _ from hI6)
        have hsp6 := hI6.sp
        have HSP := (show Hid (∀ j, j < (h + n) * 5 → ((w5.alloc (.cells #[.int .u64 0, .int .i64 0, .pointer none, .int .u64 ((i : Int) + 1), .pointer (some ⟨S, 0, none⟩)] 40)).cell? ⟨g, j, none⟩).isSome = true ∧ (w5.alloc (.cells #[.int .u64 0, .int .i64 0, .pointer none, .int .u64 ((i : Int) + 1), .pointer (some ⟨S, 0, none⟩)] 40)).frozen? ⟨g, j, none⟩ = false) from hsp6)
        have hroom : h + i + 1 ≤ h + n := by omega
        have hrn := hI6.runnext hi
        have HRN := (show Hid (BI w g g h n (i + 1) (i + 1) (i + 1) (upd sb i S) blk' lvf _ ((w5.alloc (.cells #[.int .u64 0, .int .i64 0, .pointer none, .int .u64 ((i : Int) + 1), .pointer (some ⟨S, 0, none⟩)] 40)).setCells g ((h + i) * 5) [elem (upd sb i S) i 0, elem (upd sb i S) i 1, elem (upd sb i S) i 2, elem (upd sb i S) i 3, elem (upd sb i S) i 4])) from hrn)
        clear hI5 hI6 HI6 hsp6 hrn q9 z9 s2
        go_wp2_with (at_builtin; refine wpList_app5 rfl (.tmp 83) (.tmp 87) rfl g (h + i) (h + n) rfl ⟨w5.heap.size, 0, none⟩ 1 [elem (upd sb i S) i 0, elem (upd sb i S) i 1, elem (upd sb i S) i 2, elem (upd sb i S) i 3, elem (upd sb i S) i 4] rfl rfl (elems_at (upd sb i S) i _ _ (new_cells_upd sb i S w5)) (five_one _ i) hroom HSP.out ?_)
        go_roundg (gk - 1)
        case measure => omega
        case rel =>
          exact ⟨i + 1, upd sb i S, blk', by simp, by omega, rfl, HRN.out⟩
      · have hi' : ¬ (i : Int) < n := by omega
        have hin : i = n := by omega
        have HIN := (show Hid (i = n) from hin)
        clear hin hk
        go_wp2
        go_meet
        have hh := HI.out
        rw [HIN.out] at hh
        exact ⟨by rw [HIN.out], sb, blk, hh⟩
  case rest =>
  obtain ⟨rfl, sb, blk, hI⟩ := hcut
  obtain ⟨la, lc, hlv⟩ := hI.lv.slice
  subst hlv
  obtain ⟨kl, hkl⟩ : ∃ kl, kl = (flv lvf n).length := ⟨_, rfl⟩
  rw [← hkl] at hI ⊢
  clear HI hmk
  have HI := (show Hid (BI w g g h n n n n sb blk lvf (.slice la kl lc) wc) from hI)
  clear hI hkl
  have hfin : ∀ e : Nat, e ≤ 4000 → (e + 1 = ded lvf (List.range n) ∨ (List.range n = [] ∧ e + 1 = 1)) → Built w wc.heap.size (.slice la kl lc) (wc.alloc (.cells #[.slice (some ⟨g, 0, none⟩) (h + n) (h + n), .int .i64 (h : Int), .slice none 0 0, .int .i64 (e : Int), .pointer none, .int .u64 0, .int .i64 0, .pointer none] 37)) := fun e he hc => mkBuilt HI.out HG.out hh hn e he hc
  have HFI := (show Hid (∀ e : Nat, e ≤ 4000 → (e + 1 = ded lvf (List.range n) ∨ (List.range n = [] ∧ e + 1 = 1)) → Built w wc.heap.size (.slice la kl lc) (wc.alloc (.cells #[.slice (some ⟨g, 0, none⟩) (h + n) (h + n), .int .i64 (h : Int), .slice none 0 0, .int .i64 (e : Int), .pointer none, .int .u64 0, .int .i64 0, .pointer none] 37))) from hfin)
  have hdd := HDD.out
  have hlv2 := HLV.out
  have hfr := HFR.out
  clear hfin
  by_cases hf : dd = 0 ∧ 0 < n
  · have hff : frc = true := by rw [hfr]; simpa using hf
    have hc : ded lvf (List.range n) = 1 := by rw [hlv2, hff]; exact ded_forced (by rw [← hdd]; exact hf.1) hf.2
    have hb := HFI.out 0 (by omega) (Or.inl (by rw [hc]))
    have HB := (show Hid (Built w wc.heap.size (.slice la kl lc) (wc.alloc (.cells #[.slice (some ⟨g, 0, none⟩) (h + n) (h + n), .int .i64 (h : Int), .slice none 0 0, .int .i64 0, .pointer none, .int .u64 0, .int .i64 0, .pointer none] 37))) from hb)
    rw [hff]
    clear hdd hlv2 hfr hf hff hc hb HFI
    go_wp2
    refine bodyPost_ret (by simp [results, Yba.results5, go_sem]) rfl ⟨_, _, rfl, HB.out⟩
  · have hff : frc = false := by rw [hfr]; simpa using hf
    have hc : ded lvf (List.range n) = dd := by rw [hlv2, hff, hdd]; exact ded_free lf n
    rw [hff]
    by_cases h0 : dd = 0
    · have hn0 : n = 0 := by omega
      have hb := HFI.out 0 (by omega) (Or.inr ⟨by rw [hn0]; rfl, rfl⟩)
      have HB := (show Hid (Built w wc.heap.size (.slice la kl lc) (wc.alloc (.cells #[.slice (some ⟨g, 0, none⟩) (h + n) (h + n), .int .i64 (h : Int), .slice none 0 0, .int .i64 0, .pointer none, .int .u64 0, .int .i64 0, .pointer none] 37))) from hb)
      clear hdd hlv2 hfr hf hff hc hb HFI hn0 HDD HFR
      subst h0
      go_wp2
      refine bodyPost_ret (by simp [results, Yba.results5, go_sem]) rfl ⟨_, _, rfl, HB.out⟩
    · have hp : (0 : Int) < (dd : Int) := by omega
      have hp' : 0 < dd := by omega
      have hb := HFI.out (dd - 1) (by omega) (Or.inl (by rw [hc]; omega))
      rw [show ((dd - 1 : Nat) : Int) = (dd : Int) - 1 by omega] at hb
      have HB := (show Hid (Built w wc.heap.size (.slice la kl lc) (wc.alloc (.cells #[.slice (some ⟨g, 0, none⟩) (h + n) (h + n), .int .i64 (h : Int), .slice none 0 0, .int .i64 ((dd : Int) - 1), .pointer none, .int .u64 0, .int .i64 0, .pointer none] 37))) from hb)
      clear hdd hlv2 hfr hf hff hc hb HFI
      go_wp2
      refine bodyPost_ret (by simp [results, Yba.results5, go_sem]) rfl ⟨_, _, rfl, HB.out⟩

end Go.Proofs.Ybulkaixu.Cnt
