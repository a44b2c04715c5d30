/-
  unsettle (24), take(nil) (25), marksOf (13), zzs1735av (12), context.Background (11), forget (22) where nothing lapses.
-/
import Derived.Test.YbulkaixgTidy
namespace Go.Proofs.Ybulkaixg.Marks
open Go.RowKit Go.Maps Go.WideMaps Cmp Mp
set_option linter.unusedVariables false
set_option linter.unusedSimpArgs false
set_option maxRecDepth 100000
attribute [local go_sem ↓] Go.wp_at_zero Go.wp_at_succ

theorem unsettle_yes (k : Nat) (bc uc : Int) (bm um : ByteArray) (w : World) (hc : 0 < cmpV bc bm.data.toList uc um.data.toList)
    (h3 : w.cell? ⟨k, 3, none⟩ = some (.int .u64 uc)) (h4 : w.cell? ⟨k, 4, none⟩ = some (.string um)) (f3 : w.frozen? ⟨k, 3, none⟩ = false) (f4 : w.frozen? ⟨k, 4, none⟩ = false) :
    Calls Yba.prog 24 #[.pointer (some ⟨k, 0, none⟩), .agg #[.int .u64 bc, .string bm]] w fun e w' => e = .returned (.tuple #[]) ∧
      ∃ w1, Below w.heap.size w w1 ∧ w' = (w1.setCell ⟨k, 3, none⟩ (.int .u64 bc)).setCell ⟨k, 4, none⟩ (.string bm) := by
  have hkl := block_lt_of_cell h3
  have hd : decide (0 < cmpV bc bm.data.toList uc um.data.toList) = true := by simpa using hc
  go_enter Yba.func24, Yba.ntmps24
  go_wp2
  obtain ⟨bB, hbB⟩ : ∃ bB, bB = w.heap.size := ⟨_, rfl⟩
  obtain ⟨w1, hw1⟩ : ∃ w1, w1 = w.alloc (.cells #[.int .u64 bc, .string bm] 31) := ⟨_, rfl⟩
  rw [← hw1, ← hbB]
  have hb1 : Below w.heap.size w w1 := by rw [hw1]; exact (Below.refl _ _).alloc (Nat.le_refl _) _
  have s0 : w1.cell? ⟨bB, 0, none⟩ = some (.int .u64 bc) := by rw [hw1, hbB]; simp
  have s1 : w1.cell? ⟨bB, 1, none⟩ = some (.string bm) := by rw [hw1, hbB]; simp
  have p3 := keepc hb1 h3
  have p4 := keepc hb1 h4
  have z3 : w1.frozen? ⟨k, 3, none⟩ = false := (hb1.frozen (p := ⟨k, 3, none⟩) hkl).trans f3
  have z4 : w1.frozen? ⟨k, 4, none⟩ = false := (hb1.frozen (p := ⟨k, 4, none⟩) hkl).trans f4
  clear h3 h4 f3 f4 hw1 hbB
  go_region_held3 (fun w' => w'.cell? ⟨k, 3, none⟩ = some (.int .u64 uc) ∧ w'.cell? ⟨k, 4, none⟩ = some (.string um) ∧ w'.cell? ⟨bB, 0, none⟩ = some (.int .u64 bc) ∧ w'.cell? ⟨bB, 1, none⟩ = some (.string bm)) (refine ⟨?_, ?_, ?_, ?_⟩ <;> first | assumption | exact p3 | exact p4 | exact s0 | exact s1)
    (first
      | (go_at_call 14; refine (compare_below bc uc bm um _).mono ?_; rintro e w2 ⟨rfl, hb⟩; have q3 := keepc hb (b := k) (o := 3) (v := .int .u64 uc) p3; have q4 := keepc hb (b := k) (o := 4) (v := .string um) p4; have t0 := keepc hb (b := bB) (o := 0) (v := .int .u64 bc) s0; have t1 := keepc hb (b := bB) (o := 1) (v := .string bm) s1))
  have y3 : w2.frozen? ⟨k, 3, none⟩ = false := (hb.frozen (p := ⟨k, 3, none⟩) (block_lt_of_cell p3)).trans z3
  have y4 : w2.frozen? ⟨k, 4, none⟩ = false := (hb.frozen (p := ⟨k, 4, none⟩) (block_lt_of_cell p4)).trans z4
  have hb2 : Below w.heap.size w w2 := hb1.drew.trans (hb.mono hb1.size)
  go_wp2
  go_end0
  exact ⟨rfl, w2, hb2, rfl⟩

theorem unsettle_no (k : Nat) (bc uc : Int) (bm um : ByteArray) (w : World) (hc : ¬ 0 < cmpV bc bm.data.toList uc um.data.toList)
    (h3 : w.cell? ⟨k, 3, none⟩ = some (.int .u64 uc)) (h4 : w.cell? ⟨k, 4, none⟩ = some (.string um)) :
    Calls Yba.prog 24 #[.pointer (some ⟨k, 0, none⟩), .agg #[.int .u64 bc, .string bm]] w fun e w' => e = .returned (.tuple #[]) ∧ Below w.heap.size w w' := by
  have hkl := block_lt_of_cell h3
  have hd : decide (0 < cmpV bc bm.data.toList uc um.data.toList) = false := by simpa using hc
  go_enter Yba.func24, Yba.ntmps24
  go_wp2
  obtain ⟨bB, hbB⟩ : ∃ bB, bB = w.heap.size := ⟨_, rfl⟩
  obtain ⟨w1, hw1⟩ : ∃ w1, w1 = w.alloc (.cells #[.int .u64 bc, .string bm] 31) := ⟨_, rfl⟩
  rw [← hw1, ← hbB]
  have hb1 : Below w.heap.size w w1 := by rw [hw1]; exact (Below.refl _ _).alloc (Nat.le_refl _) _
  have s0 : w1.cell? ⟨bB, 0, none⟩ = some (.int .u64 bc) := by rw [hw1, hbB]; simp
  have s1 : w1.cell? ⟨bB, 1, none⟩ = some (.string bm) := by rw [hw1, hbB]; simp
  have p3 := keepc hb1 h3
  have p4 := keepc hb1 h4
  clear h3 h4 hw1 hbB
  go_region_held3 (fun w' => w'.cell? ⟨k, 3, none⟩ = some (.int .u64 uc) ∧ w'.cell? ⟨k, 4, none⟩ = some (.string um) ∧ w'.cell? ⟨bB, 0, none⟩ = some (.int .u64 bc) ∧ w'.cell? ⟨bB, 1, none⟩ = some (.string bm)) (refine ⟨?_, ?_, ?_, ?_⟩ <;> first | assumption | exact p3 | exact p4 | exact s0 | exact s1)
    (first
      | (go_at_call 14; refine (compare_below bc uc bm um _).mono ?_; rintro e w2 ⟨rfl, hb⟩; have q3 := keepc hb (b := k) (o := 3) (v := .int .u64 uc) p3; have q4 := keepc hb (b := k) (o := 4) (v := .string um) p4; have t0 := keepc hb (b := bB) (o := 0) (v := .int .u64 bc) s0; have t1 := keepc hb (b := bB) (o := 1) (v := .string bm) s1))
  have hb2 : Below w.heap.size w w2 := hb1.drew.trans (hb.mono hb1.size)
  go_wp2
  go_end0
  exact ⟨rfl, hb2⟩

/-- take(nil) at marks whose holder's channel is open. -/
theorem take_nil (k m c : Nat) (w : World) (h0 : w.cell? ⟨k, 0, none⟩ = some (.pointer (some ⟨m, 0, none⟩))) (f0 : w.frozen? ⟨k, 0, none⟩ = false)
    (h7 : w.cell? ⟨m, 7, none⟩ = some (.chan (some c))) (hc : w.heap[c]? = some (.chan 0 #[] false 0 0 false)) :
    Calls Yba.prog 25 #[.pointer (some ⟨k, 0, none⟩), .pointer none] w fun e w' => e = .returned (.tuple #[]) ∧ w' = (w.setChan c 0 #[] true 0 0 false).setCell ⟨k, 0, none⟩ (.pointer none) := by
  have hck : c ≠ k := fun e => by subst e; simp [World.cell?, hc] at h0
  have e0 : (w.setChan c 0 #[] true 0 0 false).heap[k]? = w.heap[k]? := by simp [World.setChan, Array.getElem?_setIfInBounds_ne hck]
  have g0 : (w.setChan c 0 #[] true 0 0 false).cell? ⟨k, 0, none⟩ = some (.pointer (some ⟨m, 0, none⟩)) := (World.cell?_of_block e0).trans h0
  have z0 : (w.setChan c 0 #[] true 0 0 false).frozen? ⟨k, 0, none⟩ = false := (World.frozen?_of_block e0).trans f0
  go_enter Yba.func25, Yba.ntmps25
  go_wp2_with fail
  refine (end_open m c _ h7 hc).mono ?_
  rintro e w1 ⟨rfl, rfl⟩
  go_wp2
  go_end0
  exact ⟨rfl, rfl⟩

theorem av_any (c : Int) (m : ByteArray) (w : World) : Calls Yba.prog 12 #[.agg #[.int .u64 c, .string m]] w fun e w' => e = .returned (.agg #[.int .u64 c, .string m]) ∧ ∃ o o2 : Obj, w' = (w.alloc o).alloc o2 := by
  go_enter Yba.func12, Yba.ntmps12
  go_wp2
  exact bodyPost_ret (by simp [results, Yba.results12, go_sem]) rfl ⟨rfl, _, _, rfl⟩

theorem background (w : World) : Calls Yba.prog 11 #[] w fun e w' => e = .returned (.iface 171 (.agg #[])) ∧ w' = w := by
  go_enter Yba.func11, Yba.ntmps11
  go_wp2
  go_ret
  exact ⟨rfl, rfl⟩

/-- forget where no release is kept. -/
theorem forget_nil (R : Nat) (now : Int) (w : World) (h17 : w.cell? ⟨R, 17, none⟩ = some (.slice none 0 0)) :
    Calls Yba.prog 22 #[.pointer (some ⟨R, 0, none⟩), .int .i64 now] w fun e w' => e = .returned (.tuple #[]) ∧ w' = w := by
  go_enter Yba.func22, Yba.ntmps22
  go_wp2
  refine wp_loop_rounds 1 ?_
  rw [rounds_succ]
  go_wp2
  go_end0
  exact ⟨rfl, rfl⟩

/-- A new keyMarks. -/
def km0 : Array Value := #[.pointer none, .int .u64 0, .string ⟨#[]⟩, .int .u64 0, .string ⟨#[]⟩, .map none, .chan none]

theorem marks_new (R M n : Nat) (D : DataW Unit) (key : ByteArray) (w : World) (hk : key.size ≤ maxLen) (h15 : w.cell? ⟨R, 15, none⟩ = some (.map (some M)))
    (hown : w.ownsMap Yba.prog 9 ptrE M n D) (hn : n ≤ 1000000) (hD : D.atKey (.string key.data.toList) .nil = .nil) :
    Calls Yba.prog 13 #[.pointer (some ⟨R, 0, none⟩), .string key] w fun e w' => e = .returned (.pointer (some ⟨w.heap.size, 0, none⟩)) ∧
      (w.alloc (.cells km0 126)).grownBy w' (some M) ∧ w'.ownsMap Yba.prog 9 ptrE M (n + 1) (D.put (.string key.data.toList) (.lit (.int .i64 w.heap.size))) := by
  have hRl := block_lt_of_cell h15
  obtain ⟨v, ps, hrun, hv⟩ := hown.lookup law9 Yba.underlying59 (zero121 _) ptrE_nil (keyOf_string_mk Yba.underlying9 hk)
  rw [hD] at hv
  obtain rfl := ptrE_inv_nil hv
  obtain ⟨w1, hup, hown1, hgr⟩ := (hown.alloc (.cells km0 126)).update law9 Yba.underlying59 (by unfold maxLen; omega) (keyOf_string_mk Yba.underlying9 hk) (ptrE_some w.heap.size)
  have hkm : km0 = #[.pointer none, .int .u64 0, .string ⟨#[]⟩, .int .u64 0, .string ⟨#[]⟩, .map none, .chan none] := rfl
  rw [hkm] at hup
  clear hkm
  go_enter Yba.func13, Yba.ntmps13
  go_wp2
  go_ret
  exact ⟨rfl, hgr, hown1⟩

theorem marks_old (R M n k : Nat) (D : DataW Unit) (key : ByteArray) (w : World) (hk : key.size ≤ maxLen) (h15 : w.cell? ⟨R, 15, none⟩ = some (.map (some M)))
    (hown : w.ownsMap Yba.prog 9 ptrE M n D) (hD : D.atKey (.string key.data.toList) .nil = .lit (.int .i64 k)) :
    Calls Yba.prog 13 #[.pointer (some ⟨R, 0, none⟩), .string key] w fun e w' => e = .returned (.pointer (some ⟨k, 0, none⟩)) ∧ w' = w := by
  obtain ⟨v, ps, hrun, hv⟩ := hown.lookup law9 Yba.underlying59 (zero121 _) ptrE_nil (keyOf_string_mk Yba.underlying9 hk)
  rw [hD] at hv
  obtain rfl := ptrE_inv hv
  go_enter Yba.func13, Yba.ntmps13
  go_wp2
  go_ret
  exact ⟨rfl, rfl⟩

end Go.Proofs.Ybulkaixg.Marks
