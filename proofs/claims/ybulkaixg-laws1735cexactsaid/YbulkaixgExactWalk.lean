/-
  THE WALKS OF quorum.LawS1735CExact's CALLEES: zzs1735cmake (17), readFrom (18), zzs1735cless (19).
-/
import Derived.Test.YbulkaixgCmp
import Derived.Deep.QuietTactic
import Derived.BigQuiet
namespace Go.Proofs.Ybulkaixg.Exact
open Go.RowKit Cmp
set_option linter.unusedSimpArgs false
set_option linter.unusedVariables false
attribute [local go_sem ↓] Go.wp_at_zero Go.wp_at_succ

/-! ### the plain law: bytesLess is compareBytes < 0 -/
theorem less_iff : ∀ a b : List UInt8, Op.bytesLess a b = decide (Lib.compareBytes a b < 0)
  | [], [] => by simp [Op.bytesLess, Lib.compareBytes]
  | [], _ :: _ => by simp [Op.bytesLess, Lib.compareBytes]
  | _ :: _, [] => by simp [Op.bytesLess, Lib.compareBytes]
  | x :: a, y :: b => by
    have ih := less_iff a b
    unfold Op.bytesLess Lib.compareBytes
    rw [ih]
    by_cases h1 : x < y
    · simp [h1]
    · by_cases h2 : y < x
      · have : ¬ x = y := by intro e; subst e; exact h1 h2
        simp [h1, h2, this]
      · have : x = y := UInt8.le_antisymm (UInt8.not_lt.1 h2) (UInt8.not_lt.1 h1)
        subst this
        simp [h1]

/-- zzs1735cmake -/
theorem make_any (keep til rc : Int) (rm : ByteArray) (w : World) :
    Calls Yba.prog 17 #[.int .i64 keep, .int .i64 til, .int .u64 rc, .string rm] w fun e w' => e = .returned (.pointer (some ⟨w.heap.size, 0, none⟩)) ∧
      ∃ c : Array Value, w' = w.alloc (.cells c 157) ∧ c.size = 32 ∧ c[0]? = some (.int .i64 3) ∧ c[7]? = some (.int .u64 7) ∧ c[26]? = some (.bool false) ∧ c[27]? = some (.slice none 0 0) ∧ c[28]? = some (.int .i64 keep) ∧ c[29]? = some (.int .u64 rc) ∧ c[30]? = some (.string rm) ∧ c[31]? = some (.int .i64 til) := by
  go_enter Yba.func17, Yba.ntmps17
  go_wp2
  go_ret
  exact ⟨rfl, _, rfl, rfl, rfl, rfl, rfl, rfl, rfl, rfl, rfl, rfl⟩

/-- zzs1735cless -/
theorem less_any (c1 c2 : Int) (m1 m2 : ByteArray) (w : World) :
    Calls Yba.prog 19 #[.agg #[.int .u64 c1, .string m1], .agg #[.int .u64 c2, .string m2]] w fun e w' =>
      e = .returned (.bool (decide (cmpV c1 m1.data.toList c2 m2.data.toList < 0))) ∧ ∃ o1 o2 : Obj, w' = (w.alloc o1).alloc o2 := by
  have hl := less_iff m1.data.toList m2.data.toList
  by_cases h : c1 = c2
  · subst h
    go_enter Yba.func19, Yba.ntmps19
    go_wp2
    go_ret
    refine ⟨?_, _, _, rfl⟩
    simp [cmpV, ← hl, Lib.toList_data]
  · have h' : (c1 != c2) = true := by simpa using h
    go_enter Yba.func19, Yba.ntmps19
    go_wp2
    go_ret
    refine ⟨?_, _, _, rfl⟩
    congr 2
    unfold cmpV
    by_cases h1 : c1 < c2
    · simp [h1]
    · have h2 : c2 < c1 := by omega
      simp [h1, h2]

/-- what readFrom leaves in 'keep'. -/
def kept (keep now : Int) : Int := if wrap64 (now + 1000000000) > keep then wrap64 (now + 1000000000) else keep

/-- What readFrom leaves of the world: the block b's cells 28 to 31 hold keep, counter, member, until; all else that was there stands. -/
structure Left (b : Nat) (w w' : World) (k c : Int) (m : ByteArray) (t : Int) : Prop where
  below : Below b w w'
  size : w.heap.size ≤ w'.heap.size
  old : ∀ j o, j ≠ b → j < w.heap.size → w'.cell? ⟨j, o, none⟩ = w.cell? ⟨j, o, none⟩
  head : ∀ o, o < 28 → w'.cell? ⟨b, o, none⟩ = w.cell? ⟨b, o, none⟩
  c28 : w'.cell? ⟨b, 28, none⟩ = some (.int .i64 k)
  c29 : w'.cell? ⟨b, 29, none⟩ = some (.int .u64 c)
  c30 : w'.cell? ⟨b, 30, none⟩ = some (.string m)
  c31 : w'.cell? ⟨b, 31, none⟩ = some (.int .i64 t)

theorem left_stays {b : Nat} {w w1 : World} {k til rc : Int} {v : Value} {rm : ByteArray} (hb : b < w.heap.size)
    (c28 : w.cell? ⟨b, 28, none⟩ = some v) (c29 : w.cell? ⟨b, 29, none⟩ = some (.int .u64 rc)) (c30 : w.cell? ⟨b, 30, none⟩ = some (.string rm)) (c31 : w.cell? ⟨b, 31, none⟩ = some (.int .i64 til))
    (h : Below w.heap.size (w.setCell ⟨b, 28, none⟩ (.int .i64 k)) w1) : Left b w w1 k rc rm til := by
  have hc : ∀ j o, j < w.heap.size → w1.cell? ⟨j, o, none⟩ = (w.setCell ⟨b, 28, none⟩ (.int .i64 k)).cell? ⟨j, o, none⟩ := fun j o hj => h.cell (p := ⟨j, o, none⟩) hj
  have e28 : (w.setCell ⟨b, 28, none⟩ (.int .i64 k)).cell? ⟨b, 28, none⟩ = some (.int .i64 k) := World.cell?_setCell_same w _ _ c28
  have eo : ∀ j o, ¬ (j = b ∧ o = 28) → (w.setCell ⟨b, 28, none⟩ (.int .i64 k)).cell? ⟨j, o, none⟩ = w.cell? ⟨j, o, none⟩ := fun j o hn =>
    World.cell?_setCell_other w _ _ _ (by intro e; apply hn; cases e; exact ⟨rfl, rfl⟩)
  refine ⟨((Below.refl b w).setCell (Nat.le_refl _) _).trans (h.mono (by omega)), by have := h.size; simpa using this, ?_, ?_, ?_, ?_, ?_, ?_⟩
  · intro j o hj hlt; rw [hc j o hlt, eo j o (by omega)]
  · intro o ho; rw [hc b o hb, eo b o (by omega)]
  · rw [hc b 28 hb, e28]
  · rw [hc b 29 hb, eo b 29 (by omega), c29]
  · rw [hc b 30 hb, eo b 30 (by omega), c30]
  · rw [hc b 31 hb, eo b 31 (by omega), c31]

theorem left_taken {b : Nat} {w w1 : World} {k til rc c t : Int} {v : Value} {rm m : ByteArray} (hb : b < w.heap.size)
    (c28 : w.cell? ⟨b, 28, none⟩ = some v) (c29 : w.cell? ⟨b, 29, none⟩ = some (.int .u64 rc)) (c30 : w.cell? ⟨b, 30, none⟩ = some (.string rm)) (c31 : w.cell? ⟨b, 31, none⟩ = some (.int .i64 til))
    (h : Below w.heap.size (w.setCell ⟨b, 28, none⟩ (.int .i64 k)) w1) :
    Left b w (((w1.setCell ⟨b, 29, none⟩ (.int .u64 c)).setCell ⟨b, 30, none⟩ (.string m)).setCell ⟨b, 31, none⟩ (.int .i64 t)) k c m t := by
  have L := left_stays hb c28 c29 c30 c31 h
  have e : ∀ (o : Nat) (x : Value) (w2 : World) (j o' : Nat), ¬ (j = b ∧ o' = o) → (w2.setCell ⟨b, o, none⟩ x).cell? ⟨j, o', none⟩ = w2.cell? ⟨j, o', none⟩ := fun o x w2 j o' hn =>
    World.cell?_setCell_other w2 _ _ _ (by intro e; apply hn; cases e; exact ⟨rfl, rfl⟩)
  have g29 : (w1.setCell ⟨b, 29, none⟩ (.int .u64 c)).cell? ⟨b, 29, none⟩ = some (.int .u64 c) := World.cell?_setCell_same w1 _ _ L.c29
  have g30 : ((w1.setCell ⟨b, 29, none⟩ (.int .u64 c)).setCell ⟨b, 30, none⟩ (.string m)).cell? ⟨b, 30, none⟩ = some (.string m) := World.cell?_setCell_same _ _ _ (by rw [e _ _ _ _ _ (by omega)]; exact L.c30)
  have g31 : (((w1.setCell ⟨b, 29, none⟩ (.int .u64 c)).setCell ⟨b, 30, none⟩ (.string m)).setCell ⟨b, 31, none⟩ (.int .i64 t)).cell? ⟨b, 31, none⟩ = some (.int .i64 t) :=
    World.cell?_setCell_same _ _ _ (by rw [e _ _ _ _ _ (by omega), e _ _ _ _ _ (by omega)]; exact L.c31)
  refine ⟨((L.below.setCell (Nat.le_refl _) _).setCell (Nat.le_refl _) _).setCell (Nat.le_refl _) _, by simpa using L.size, ?_, ?_, ?_, ?_, ?_, g31⟩
  · intro j o hj hlt; rw [e _ _ _ _ _ (by omega), e _ _ _ _ _ (by omega), e _ _ _ _ _ (by omega)]; exact L.old j o hj hlt
  · intro o ho; rw [e _ _ _ _ _ (by omega), e _ _ _ _ _ (by omega), e _ _ _ _ _ (by omega)]; exact L.head o ho
  · rw [e _ _ _ _ _ (by omega), e _ _ _ _ _ (by omega), e _ _ _ _ _ (by omega)]; exact L.c28
  · rw [e _ _ _ _ _ (by omega), e _ _ _ _ _ (by omega)]; exact g29
  · rw [e _ _ _ _ _ (by omega)]; exact g30

theorem Left.grow {b : Nat} {w w1 w2 : World} {k c t : Int} {m : ByteArray} (L : Left b w w1 k c m t) (hb : b < w.heap.size) (h : Below w.heap.size w1 w2) : Left b w w2 k c m t := by
  have hc : ∀ j o, j < w.heap.size → w2.cell? ⟨j, o, none⟩ = w1.cell? ⟨j, o, none⟩ := fun j o hj => h.cell (p := ⟨j, o, none⟩) hj
  refine ⟨L.below.trans (h.mono (by omega)), by have := h.size; have := L.size; omega, ?_, ?_, ?_, ?_, ?_, ?_⟩
  · intro j o hj hlt; rw [hc j o hlt]; exact L.old j o hj hlt
  · intro o ho; rw [hc b o hb]; exact L.head o ho
  · rw [hc b 28 hb]; exact L.c28
  · rw [hc b 29 hb]; exact L.c29
  · rw [hc b 30 hb]; exact L.c30
  · rw [hc b 31 hb]; exact L.c31

/-- Four new blocks and two draws. -/
theorem below4 (B : Nat) (w : World) (hB : B ≤ w.heap.size) (o o1 o2 o3 : Obj) : Below B w (((((w.alloc o).alloc o1).alloc o2).alloc o3).drew.drew) :=
  ((((((Below.refl _ _).alloc hB _).alloc (by simp; omega) _).alloc (by simp; omega) _).alloc (by simp; omega) _).drew).drew

/-- readFrom where the reader is taken anew because its time is over. -/
theorem read_over (b : Nat) (keep til now rc ac : Int) (rm am : ByteArray) (w : World) (ht : til ≤ now)
    (c28 : w.cell? ⟨b, 28, none⟩ = some (.int .i64 keep)) (c29 : w.cell? ⟨b, 29, none⟩ = some (.int .u64 rc)) (c30 : w.cell? ⟨b, 30, none⟩ = some (.string rm)) (c31 : w.cell? ⟨b, 31, none⟩ = some (.int .i64 til))
    (f28 : w.frozen? ⟨b, 28, none⟩ = false) (f29 : w.frozen? ⟨b, 29, none⟩ = false) (f30 : w.frozen? ⟨b, 30, none⟩ = false) (f31 : w.frozen? ⟨b, 31, none⟩ = false) (hb : b < w.heap.size) :
    Calls Yba.prog 18 #[.pointer (some ⟨b, 0, none⟩), .agg #[.int .u64 ac, .string am], .int .i64 now] w fun e w' => e = .returned (.tuple #[]) ∧
      Left b w w' (kept keep now) ac am (wrap64 (now + 1000000000)) := by
  have hd : decide (til ≤ now) = true := by simpa using ht
  unfold kept
  by_cases hk : keep < wrap64 (now + 1000000000)
  · rw [if_pos hk]
    go_enter Yba.func18, Yba.ntmps18
    go_wp2
    go_quiet (fail)
    go_wp2
    go_end0
    exact ⟨rfl, left_taken hb c28 c29 c30 c31 (below_drewN ((Below.refl _ _).alloc (by simp) _) _)⟩
  · rw [if_neg hk]
    go_enter Yba.func18, Yba.ntmps18
    go_wp2
    go_quiet (fail)
    go_wp2
    go_end0
    exact ⟨rfl, left_taken hb c28 c29 c30 c31 (below_drewN ((Below.refl _ _).alloc (by simp) _) _)⟩

/-- readFrom where the reader is taken anew because 'after' orders before it. -/
theorem read_less (b : Nat) (keep til now rc ac : Int) (rm am : ByteArray) (w : World) (ht : ¬ til ≤ now) (hc : cmpV ac am.data.toList rc rm.data.toList < 0)
    (c28 : w.cell? ⟨b, 28, none⟩ = some (.int .i64 keep)) (c29 : w.cell? ⟨b, 29, none⟩ = some (.int .u64 rc)) (c30 : w.cell? ⟨b, 30, none⟩ = some (.string rm)) (c31 : w.cell? ⟨b, 31, none⟩ = some (.int .i64 til))
    (f28 : w.frozen? ⟨b, 28, none⟩ = false) (f29 : w.frozen? ⟨b, 29, none⟩ = false) (f30 : w.frozen? ⟨b, 30, none⟩ = false) (f31 : w.frozen? ⟨b, 31, none⟩ = false) (hb : b < w.heap.size) :
    Calls Yba.prog 18 #[.pointer (some ⟨b, 0, none⟩), .agg #[.int .u64 ac, .string am], .int .i64 now] w fun e w' => e = .returned (.tuple #[]) ∧
      Left b w w' (kept keep now) ac am (wrap64 (now + 1000000000)) := by
  have hd : decide (til ≤ now) = false := by simpa using ht
  have hd2 : decide (cmpV ac am.data.toList rc rm.data.toList < 0) = true := by simpa using hc
  have n0 : ¬ w.heap.size = b := by omega
  have hb1 : b < w.heap.size + 1 := by omega
  have hb2 : b < w.heap.size + 1 + 1 := by omega
  have hb3 : b < w.heap.size + 1 + 1 + 1 := by omega
  unfold kept
  by_cases hk : keep < wrap64 (now + 1000000000)
  · rw [if_pos hk]
    go_enter Yba.func18, Yba.ntmps18
    go_wp2
    go_region_held3 (fun w' => w'.cell? ⟨b, 29, none⟩ = some (.int .u64 rc) ∧ w'.cell? ⟨b, 30, none⟩ = some (.string rm) ∧ w'.cell? ⟨b, 31, none⟩ = some (.int .i64 til) ∧ w'.cell? ⟨w.heap.size, 0, none⟩ = some (.int .u64 ac) ∧ w'.cell? ⟨w.heap.size, 1, none⟩ = some (.string am)) (simp [go_sem, World.cell?_alloc_past, *])
      (first
        | (go_at_call 14; refine (compare_any ac rc am rm _).mono ?_; rintro e w' ⟨rfl, o1, o2, o3, rfl⟩))
    go_wp2
    go_end0
    exact ⟨rfl, (left_taken hb c28 c29 c30 c31 (Below.refl _ _)).grow hb (below4 _ _ (by simp) _ _ _ _)⟩
  · rw [if_neg hk]
    go_enter Yba.func18, Yba.ntmps18
    go_wp2
    go_region_held3 (fun w' => w'.cell? ⟨b, 29, none⟩ = some (.int .u64 rc) ∧ w'.cell? ⟨b, 30, none⟩ = some (.string rm) ∧ w'.cell? ⟨b, 31, none⟩ = some (.int .i64 til) ∧ w'.cell? ⟨w.heap.size, 0, none⟩ = some (.int .u64 ac) ∧ w'.cell? ⟨w.heap.size, 1, none⟩ = some (.string am)) (simp [go_sem, World.cell?_alloc_past, *])
      (first
        | (go_at_call 14; refine (compare_any ac rc am rm _).mono ?_; rintro e w' ⟨rfl, o1, o2, o3, rfl⟩))
    go_wp2
    go_end0
    exact ⟨rfl, (left_taken hb c28 c29 c30 c31 (Below.refl _ _)).grow hb (below4 _ _ (by simp) _ _ _ _)⟩

/-- readFrom where the reader stays. -/
theorem read_stays (b : Nat) (keep til now rc ac : Int) (rm am : ByteArray) (w : World) (ht : ¬ til ≤ now) (hc : ¬ cmpV ac am.data.toList rc rm.data.toList < 0)
    (c28 : w.cell? ⟨b, 28, none⟩ = some (.int .i64 keep)) (c29 : w.cell? ⟨b, 29, none⟩ = some (.int .u64 rc)) (c30 : w.cell? ⟨b, 30, none⟩ = some (.string rm)) (c31 : w.cell? ⟨b, 31, none⟩ = some (.int .i64 til))
    (f28 : w.frozen? ⟨b, 28, none⟩ = false) (f29 : w.frozen? ⟨b, 29, none⟩ = false) (f30 : w.frozen? ⟨b, 30, none⟩ = false) (f31 : w.frozen? ⟨b, 31, none⟩ = false) (hb : b < w.heap.size) :
    Calls Yba.prog 18 #[.pointer (some ⟨b, 0, none⟩), .agg #[.int .u64 ac, .string am], .int .i64 now] w fun e w' => e = .returned (.tuple #[]) ∧
      Left b w w' (kept keep now) rc rm til := by
  have hd : decide (til ≤ now) = false := by simpa using ht
  have hd2 : decide (cmpV ac am.data.toList rc rm.data.toList < 0) = false := by simpa using hc
  have n0 : ¬ w.heap.size = b := by omega
  have hb1 : b < w.heap.size + 1 := by omega
  have hb2 : b < w.heap.size + 1 + 1 := by omega
  have hb3 : b < w.heap.size + 1 + 1 + 1 := by omega
  unfold kept
  by_cases hk : keep < wrap64 (now + 1000000000)
  · rw [if_pos hk]
    go_enter Yba.func18, Yba.ntmps18
    go_wp2
    go_region_held3 (fun w' => w'.cell? ⟨b, 29, none⟩ = some (.int .u64 rc) ∧ w'.cell? ⟨b, 30, none⟩ = some (.string rm) ∧ w'.cell? ⟨b, 31, none⟩ = some (.int .i64 til) ∧ w'.cell? ⟨w.heap.size, 0, none⟩ = some (.int .u64 ac) ∧ w'.cell? ⟨w.heap.size, 1, none⟩ = some (.string am)) (simp [go_sem, World.cell?_alloc_past, *])
      (first
        | (go_at_call 14; refine (compare_any ac rc am rm _).mono ?_; rintro e w' ⟨rfl, o1, o2, o3, rfl⟩))
    go_wp2
    go_end0
    exact ⟨rfl, (left_stays hb c28 c29 c30 c31 (Below.refl _ _)).grow hb (below4 _ _ (by simp) _ _ _ _)⟩
  · rw [if_neg hk]
    go_enter Yba.func18, Yba.ntmps18
    go_wp2
    go_region_held3 (fun w' => w'.cell? ⟨b, 29, none⟩ = some (.int .u64 rc) ∧ w'.cell? ⟨b, 30, none⟩ = some (.string rm) ∧ w'.cell? ⟨b, 31, none⟩ = some (.int .i64 til) ∧ w'.cell? ⟨w.heap.size, 0, none⟩ = some (.int .u64 ac) ∧ w'.cell? ⟨w.heap.size, 1, none⟩ = some (.string am)) (simp [go_sem, World.cell?_alloc_past, *])
      (first
        | (go_at_call 14; refine (compare_any ac rc am rm _).mono ?_; rintro e w' ⟨rfl, o1, o2, o3, rfl⟩))
    go_wp2
    go_end0
    exact ⟨rfl, (left_stays hb c28 c29 c30 c31 (Below.refl _ _)).grow hb (below4 _ _ (by simp) _ _ _ _)⟩

end Go.Proofs.Ybulkaixg.Exact
