/-
  THE WALK OF quorum.LawS1735CExact (6), out of the contracts of its callees.
-/
import Derived.Test.YbulkaixgExactWalk
namespace Go.Proofs.Ybulkaixg.Exact
open Go.RowKit Cmp
set_option linter.unusedSimpArgs false
set_option linter.unusedVariables false
attribute [local go_sem ↓] Go.wp_at_zero Go.wp_at_succ

set_option maxRecDepth 100000 in
theorem law_over (keep til now rc ac : Int) (rm am : ByteArray) (w : World) (ht : til ≤ now) :
    Calls Yba.prog 6 #[.int .i64 keep, .int .i64 til, .int .i64 now, .int .u64 rc, .string rm, .int .u64 ac, .string am] w fun e w' => e = .returned (.bool true) ∧ Below w.heap.size w w' := by
  have hd : decide (til ≤ now) = true := by simpa using ht
  go_enter Yba.func6, Yba.ntmps6
  go_wp2_with fail
  refine (make_any _ _ _ _ _).mono ?_
  rintro e w1 ⟨rfl, c, rfl, hsz, k0, k7, k26, k27, k28, k29, k30, k31⟩
  go_wp2_with fail
  refine (read_over w.heap.size keep til now rc ac rm am _ ht ?_ ?_ ?_ ?_ ?_ ?_ ?_ ?_ ?_).mono ?_
  · simp [World.cell?_alloc_past, k28]
  · simp [World.cell?_alloc_past, k29]
  · simp [World.cell?_alloc_past, k30]
  · simp [World.cell?_alloc_past, k31]
  · simp
  · simp
  · simp
  · simp
  · simp; omega
  rintro e w2 ⟨rfl, L⟩
  have g0 : w2.cell? ⟨w.heap.size, 0, none⟩ = some (.int .i64 3) := by rw [L.head 0 (by omega)]; simp [World.cell?_alloc_past, k0]
  have g7 : w2.cell? ⟨w.heap.size, 7, none⟩ = some (.int .u64 7) := by rw [L.head 7 (by omega)]; simp [World.cell?_alloc_past, k7]
  have g26 : w2.cell? ⟨w.heap.size, 26, none⟩ = some (.bool false) := by rw [L.head 26 (by omega)]; simp [World.cell?_alloc_past, k26]
  have g27 : w2.cell? ⟨w.heap.size, 27, none⟩ = some (.slice none 0 0) := by rw [L.head 27 (by omega)]; simp [World.cell?_alloc_past, k27]
  have g28 := L.c28
  have g29 := L.c29
  have g30 := L.c30
  have g31 := L.c31
  have a0 : w2.cell? ⟨w.heap.size + 1, 0, none⟩ = some (.int .u64 ac) := by rw [L.old (w.heap.size + 1) 0 (by omega) (by simp)]; simp
  have a1 : w2.cell? ⟨w.heap.size + 1, 1, none⟩ = some (.string am) := by rw [L.old (w.heap.size + 1) 1 (by omega) (by simp)]; simp
  have hs : w.heap.size + 2 ≤ w2.heap.size := by have := L.size; simpa using this
  have hs0 : w.heap.size < w2.heap.size := by omega
  have hs1 : w.heap.size + 1 < w2.heap.size := by omega
  have hbel : Below w.heap.size w w2 := (((Below.refl _ _).alloc (Nat.le_refl _) _).alloc (by simp) _).trans L.below
  clear k0 k7 k26 k27 k28 k29 k30 k31 hsz L hs
  have hnil := fun wx => Lib.run_eql_slice_nil (P := Yba.prog) wx 155 322 none 0 0 0 0 Yba.underlying155
  by_cases hk : keep < wrap64 (now + 1000000000)
  · have hkv : kept keep now = wrap64 (now + 1000000000) := if_pos hk
    rw [hkv] at g28
    clear hkv
    go_wp2_with fail
    go_quiet (fail)
    go_wp2
    go_ret
    exact ⟨rfl, below_drewN (hbel.alloc (by omega) _) _⟩
  · have hkv : kept keep now = keep := if_neg hk
    rw [hkv] at g28
    clear hkv
    go_wp2_with fail
    go_quiet (fail)
    go_wp2
    go_ret
    exact ⟨rfl, below_drewN (hbel.alloc (by omega) _) _⟩

set_option maxRecDepth 100000 in
theorem law_less (keep til now rc ac : Int) (rm am : ByteArray) (w : World) (ht : ¬ til ≤ now) (hc : cmpV ac am.data.toList rc rm.data.toList < 0) :
    Calls Yba.prog 6 #[.int .i64 keep, .int .i64 til, .int .i64 now, .int .u64 rc, .string rm, .int .u64 ac, .string am] w fun e w' => e = .returned (.bool true) ∧ Below w.heap.size w w' := by
  have hd : decide (til ≤ now) = false := by simpa using ht
  have hd2 : decide (cmpV ac am.data.toList rc rm.data.toList < 0) = true := by simpa using hc
  go_enter Yba.func6, Yba.ntmps6
  go_wp2_with fail
  refine (make_any _ _ _ _ _).mono ?_
  rintro e w1 ⟨rfl, c, rfl, hsz, k0, k7, k26, k27, k28, k29, k30, k31⟩
  go_wp2_with fail
  refine (read_less w.heap.size keep til now rc ac rm am _ (by omega) (by omega) ?_ ?_ ?_ ?_ ?_ ?_ ?_ ?_ ?_).mono ?_
  · simp [World.cell?_alloc_past, k28]
  · simp [World.cell?_alloc_past, k29]
  · simp [World.cell?_alloc_past, k30]
  · simp [World.cell?_alloc_past, k31]
  · simp
  · simp
  · simp
  · simp
  · simp; omega
  rintro e w2 ⟨rfl, L⟩
  have g0 : w2.cell? ⟨w.heap.size, 0, none⟩ = some (.int .i64 3) := by rw [L.head 0 (by omega)]; simp [World.cell?_alloc_past, k0]
  have g7 : w2.cell? ⟨w.heap.size, 7, none⟩ = some (.int .u64 7) := by rw [L.head 7 (by omega)]; simp [World.cell?_alloc_past, k7]
  have g26 : w2.cell? ⟨w.heap.size, 26, none⟩ = some (.bool false) := by rw [L.head 26 (by omega)]; simp [World.cell?_alloc_past, k26]
  have g27 : w2.cell? ⟨w.heap.size, 27, none⟩ = some (.slice none 0 0) := by rw [L.head 27 (by omega)]; simp [World.cell?_alloc_past, k27]
  have g28 := L.c28
  have g29 := L.c29
  have g30 := L.c30
  have g31 := L.c31
  have a0 : w2.cell? ⟨w.heap.size + 1, 0, none⟩ = some (.int .u64 ac) := by rw [L.old (w.heap.size + 1) 0 (by omega) (by simp)]; simp
  have a1 : w2.cell? ⟨w.heap.size + 1, 1, none⟩ = some (.string am) := by rw [L.old (w.heap.size + 1) 1 (by omega) (by simp)]; simp
  have hs : w.heap.size + 2 ≤ w2.heap.size := by have := L.size; simpa using this
  have hs0 : w.heap.size < w2.heap.size := by omega
  have hs1 : w.heap.size + 1 < w2.heap.size := by omega
  have hs2 : w.heap.size < w2.heap.size + 1 := by omega
  have hs3 : w.heap.size + 1 < w2.heap.size + 1 := by omega
  have hs4 : w.heap.size < w2.heap.size + 1 + 1 := by omega
  have hs5 : w.heap.size + 1 < w2.heap.size + 1 + 1 := by omega
  have hbel : Below w.heap.size w w2 := (((Below.refl _ _).alloc (Nat.le_refl _) _).alloc (by simp) _).trans L.below
  clear k0 k7 k26 k27 k28 k29 k30 k31 hsz L hs
  have hnil := fun wx => Lib.run_eql_slice_nil (P := Yba.prog) wx 155 322 none 0 0 0 0 Yba.underlying155
  by_cases hk : keep < wrap64 (now + 1000000000)
  · have hkv : kept keep now = wrap64 (now + 1000000000) := if_pos hk
    rw [hkv] at g28
    clear hkv
    go_wp2_with (go_at_call 19; refine (less_any ac rc am rm _).mono ?_; rintro e w' ⟨rfl, o1, o2, rfl⟩)
    go_quiet (fail)
    go_wp2
    go_ret
    exact ⟨rfl, below_drewN (((hbel.alloc (by omega) _).alloc (by simp; omega) _).alloc (by simp; omega) _) _⟩
  · have hkv : kept keep now = keep := if_neg hk
    rw [hkv] at g28
    clear hkv
    go_wp2_with (go_at_call 19; refine (less_any ac rc am rm _).mono ?_; rintro e w' ⟨rfl, o1, o2, rfl⟩)
    go_quiet (fail)
    go_wp2
    go_ret
    exact ⟨rfl, below_drewN (((hbel.alloc (by omega) _).alloc (by simp; omega) _).alloc (by simp; omega) _) _⟩

set_option maxRecDepth 100000 in
theorem law_stays (keep til now rc ac : Int) (rm am : ByteArray) (w : World) (ht : ¬ til ≤ now) (hc : ¬ cmpV ac am.data.toList rc rm.data.toList < 0) :
    Calls Yba.prog 6 #[.int .i64 keep, .int .i64 til, .int .i64 now, .int .u64 rc, .string rm, .int .u64 ac, .string am] w fun e w' => e = .returned (.bool true) ∧ Below w.heap.size w w' := by
  have hd : decide (til ≤ now) = false := by simpa using ht
  have hd2 : decide (cmpV ac am.data.toList rc rm.data.toList < 0) = false := by simpa using hc
  go_enter Yba.func6, Yba.ntmps6
  go_wp2_with fail
  refine (make_any _ _ _ _ _).mono ?_
  rintro e w1 ⟨rfl, c, rfl, hsz, k0, k7, k26, k27, k28, k29, k30, k31⟩
  go_wp2_with fail
  refine (read_stays w.heap.size keep til now rc ac rm am _ (by omega) (by omega) ?_ ?_ ?_ ?_ ?_ ?_ ?_ ?_ ?_).mono ?_
  · simp [World.cell?_alloc_past, k28]
  · simp [World.cell?_alloc_past, k29]
  · simp [World.cell?_alloc_past, k30]
  · simp [World.cell?_alloc_past, k31]
  · simp
  · simp
  · simp
  · simp
  · simp; omega
  rintro e w2 ⟨rfl, L⟩
  have g0 : w2.cell? ⟨w.heap.size, 0, none⟩ = some (.int .i64 3) := by rw [L.head 0 (by omega)]; simp [World.cell?_alloc_past, k0]
  have g7 : w2.cell? ⟨w.heap.size, 7, none⟩ = some (.int .u64 7) := by rw [L.head 7 (by omega)]; simp [World.cell?_alloc_past, k7]
  have g26 : w2.cell? ⟨w.heap.size, 26, none⟩ = some (.bool false) := by rw [L.head 26 (by omega)]; simp [World.cell?_alloc_past, k26]
  have g27 : w2.cell? ⟨w.heap.size, 27, none⟩ = some (.slice none 0 0) := by rw [L.head 27 (by omega)]; simp [World.cell?_alloc_past, k27]
  have g28 := L.c28
  have g29 := L.c29
  have g30 := L.c30
  have g31 := L.c31
  have a0 : w2.cell? ⟨w.heap.size + 1, 0, none⟩ = some (.int .u64 ac) := by rw [L.old (w.heap.size + 1) 0 (by omega) (by simp)]; simp
  have a1 : w2.cell? ⟨w.heap.size + 1, 1, none⟩ = some (.string am) := by rw [L.old (w.heap.size + 1) 1 (by omega) (by simp)]; simp
  have hs : w.heap.size + 2 ≤ w2.heap.size := by have := L.size; simpa using this
  have hs0 : w.heap.size < w2.heap.size := by omega
  have hs1 : w.heap.size + 1 < w2.heap.size := by omega
  have hs2 : w.heap.size < w2.heap.size + 1 := by omega
  have hs3 : w.heap.size + 1 < w2.heap.size + 1 := by omega
  have hs4 : w.heap.size < w2.heap.size + 1 + 1 := by omega
  have hs5 : w.heap.size + 1 < w2.heap.size + 1 + 1 := by omega
  have hbel : Below w.heap.size w w2 := (((Below.refl _ _).alloc (Nat.le_refl _) _).alloc (by simp) _).trans L.below
  clear k0 k7 k26 k27 k28 k29 k30 k31 hsz L hs
  have hnil := fun wx => Lib.run_eql_slice_nil (P := Yba.prog) wx 155 322 none 0 0 0 0 Yba.underlying155
  by_cases hk : keep < wrap64 (now + 1000000000)
  · have hkv : kept keep now = wrap64 (now + 1000000000) := if_pos hk
    rw [hkv] at g28
    clear hkv
    go_wp2_with (go_at_call 19; refine (less_any ac rc am rm _).mono ?_; rintro e w' ⟨rfl, o1, o2, rfl⟩)
    go_quiet (fail)
    go_wp2
    go_ret
    exact ⟨rfl, below_drewN (((hbel.alloc (by omega) _).alloc (by simp; omega) _).alloc (by simp; omega) _) _⟩
  · have hkv : kept keep now = keep := if_neg hk
    rw [hkv] at g28
    clear hkv
    go_wp2_with (go_at_call 19; refine (less_any ac rc am rm _).mono ?_; rintro e w' ⟨rfl, o1, o2, rfl⟩)
    go_quiet (fail)
    go_wp2
    go_ret
    exact ⟨rfl, below_drewN (((hbel.alloc (by omega) _).alloc (by simp; omega) _).alloc (by simp; omega) _) _⟩

theorem law_any (keep til now rc ac : Int) (rm am : ByteArray) (w : World) :
    Calls Yba.prog 6 #[.int .i64 keep, .int .i64 til, .int .i64 now, .int .u64 rc, .string rm, .int .u64 ac, .string am] w fun e w' => e = .returned (.bool true) ∧ Below w.heap.size w w' := by
  by_cases ht : til ≤ now
  · exact law_over keep til now rc ac rm am w ht
  · by_cases hc : cmpV ac am.data.toList rc rm.data.toList < 0
    · exact law_less keep til now rc ac rm am w ht hc
    · exact law_stays keep til now rc ac rm am w ht hc

end Go.Proofs.Ybulkaixg.Exact
