/-
  byKey's methods: Len (129), Less (130), Swap (131).
-/
import Derived.Test.YbulkaixgSrtA
import Derived.Test.YbulkaixgOrdP
import Derived.BigRegion
import Derived.BigQuiet
import Derived.Deep.DeepCutAuto
import Derived.Deep.CutBlock
namespace Go.Proofs.Ybulkaixg.Srt
open Go.RowKit Go.Sort Go.Proofs.Ybulkaixg.Ord
set_option linter.unusedVariables false
set_option linter.unusedSimpArgs false
set_option maxRecDepth 100000

theorem len_raw (bk kb m : Nat) (w : World) (h1 : w.cell? ⟨bk, 1, none⟩ = some (.slice (some ⟨kb, 0, none⟩) m m)) :
    Calls Yba.prog 129 #[.pointer (some ⟨bk, 0, none⟩)] w fun e w' => e = .returned (.int .i64 m) ∧ w' = w := by
  go_enter Yba.func129, Yba.ntmps129
  go_wp2
  go_ret
  exact ⟨rfl, rfl⟩

set_option maxHeartbeats 4000000 in
theorem swap_ne (bk kb m i j : Nat) (x1 x2 y1 y2 : Int) (w : World) (h1 : w.cell? ⟨bk, 1, none⟩ = some (.slice (some ⟨kb, 0, none⟩) m m)) (hi : i < m) (hj : j < m) (hm : m < 1099511627776)
    (a1 : w.cell? ⟨kb, i * 2, none⟩ = some (.int .u64 x1)) (a2 : w.cell? ⟨kb, i * 2 + 1, none⟩ = some (.int .i64 x2))
    (b1 : w.cell? ⟨kb, j * 2, none⟩ = some (.int .u64 y1)) (b2 : w.cell? ⟨kb, j * 2 + 1, none⟩ = some (.int .i64 y2)) (hf : ∀ o, w.frozen? ⟨kb, o, none⟩ = false) (hij : i ≠ j) :
    Calls Yba.prog 131 #[.pointer (some ⟨bk, 0, none⟩), .int .i64 i, .int .i64 j] w fun e w' => e = .returned (.tuple #[]) ∧ w' = ((((w.setCell ⟨kb, i * 2, none⟩ (.int .u64 y1)).setCell ⟨kb, i * 2 + 1, none⟩ (.int .i64 y2)).setCell ⟨kb, j * 2, none⟩ (.int .u64 x1)).setCell ⟨kb, j * 2 + 1, none⟩ (.int .i64 x2)).drew := by
  have n1 : ¬ (i * 2 = j * 2) := by omega
  have n2 : ¬ (j * 2 = i * 2) := by omega
  have n3 : ¬ (i * 2 + 1 = j * 2) := by omega
  have n4 : ¬ (j * 2 = i * 2 + 1) := by omega
  have n5 : ¬ (i * 2 = j * 2 + 1) := by omega
  have n6 : ¬ (j * 2 + 1 = i * 2) := by omega
  have n7 : ¬ (i * 2 + 1 = j * 2 + 1) := by omega
  have n8 : ¬ (j * 2 + 1 = i * 2 + 1) := by omega
  go_enter Yba.func131, Yba.ntmps131
  go_region
  all_goals go_wp2
  all_goals go_end0
  all_goals exact ⟨rfl, rfl⟩

set_option maxHeartbeats 4000000 in
theorem swap_eq (bk kb m i : Nat) (x1 x2 : Int) (w : World) (h1 : w.cell? ⟨bk, 1, none⟩ = some (.slice (some ⟨kb, 0, none⟩) m m)) (hi : i < m) (hm : m < 1099511627776)
    (a1 : w.cell? ⟨kb, i * 2, none⟩ = some (.int .u64 x1)) (a2 : w.cell? ⟨kb, i * 2 + 1, none⟩ = some (.int .i64 x2)) (hf : ∀ o, w.frozen? ⟨kb, o, none⟩ = false) :
    Calls Yba.prog 131 #[.pointer (some ⟨bk, 0, none⟩), .int .i64 i, .int .i64 i] w fun e w' => e = .returned (.tuple #[]) ∧ w' = ((((w.setCell ⟨kb, i * 2, none⟩ (.int .u64 x1)).setCell ⟨kb, i * 2 + 1, none⟩ (.int .i64 x2)).setCell ⟨kb, i * 2, none⟩ (.int .u64 x1)).setCell ⟨kb, i * 2 + 1, none⟩ (.int .i64 x2)).drew := by
  go_enter Yba.func131, Yba.ntmps131
  go_region
  all_goals go_wp2
  all_goals go_end0
  all_goals exact ⟨rfl, rfl⟩

theorem below_two (w : World) (o1 o2 : Obj) : Go.RowKit.Below w.heap.size w ((w.alloc o1).alloc o2).drew :=
  have h := ((Go.RowKit.Below.refl w.heap.size w).alloc (Nat.le_refl _) o1).alloc (by simp) o2
  ⟨h.os, h.tape, h.output, h.size, h.block⟩

set_option maxHeartbeats 4000000 in
theorem less_raw (bk kb A m c i j p q hp hq : Nat) (x y : Int) (k l : ByteArray) (w : World) (h0 : w.cell? ⟨bk, 0, none⟩ = some (.slice (some ⟨A, 0, none⟩) m c)) (h1 : w.cell? ⟨bk, 1, none⟩ = some (.slice (some ⟨kb, 0, none⟩) m m)) (hi : i < m) (hj : j < m) (hm : m < 1099511627776)
    (a1 : w.cell? ⟨kb, i * 2, none⟩ = some (.int .u64 x)) (a2 : w.cell? ⟨kb, i * 2 + 1, none⟩ = some (.int .i64 p))
    (b1 : w.cell? ⟨kb, j * 2, none⟩ = some (.int .u64 y)) (b2 : w.cell? ⟨kb, j * 2 + 1, none⟩ = some (.int .i64 q)) (hpm : p < m) (hqm : q < m)
    (c1 : w.cell? ⟨A, p, none⟩ = some (.pointer (some ⟨hp, 0, none⟩))) (c2 : w.cell? ⟨A, q, none⟩ = some (.pointer (some ⟨hq, 0, none⟩)))
    (d1 : w.cell? ⟨hp, 0, none⟩ = some (.string k)) (d2 : w.cell? ⟨hq, 0, none⟩ = some (.string l)) :
    Calls Yba.prog 130 #[.pointer (some ⟨bk, 0, none⟩), .int .i64 i, .int .i64 j] w fun e w' => e = .returned (.bool (if x = y then Op.bytesLess k.toList l.toList else decide (x < y))) ∧ Go.RowKit.Below w.heap.size w w' := by
  have l1 : bk < w.heap.size := block_lt_of_cell h0
  have l2 : kb < w.heap.size := block_lt_of_cell a1
  go_enter Yba.func130, Yba.ntmps130
  go_upto_region 1 with fail
  go_cut [7, 8] from 9 to 68 (fun s7 s8 wx => ∃ P Q : Nat, s7 = .pointer (some ⟨P, 0, none⟩) ∧ s8 = .pointer (some ⟨Q, 0, none⟩) ∧ w.heap.size ≤ P ∧ w.heap.size ≤ Q ∧ wx.cell? ⟨P, 0, none⟩ = some (.int .u64 x) ∧ wx.cell? ⟨Q, 0, none⟩ = some (.int .u64 y) ∧ Go.RowKit.Below w.heap.size w wx)
  case first =>
    go_region
    all_goals go_wp2
    all_goals go_meet
    all_goals exact ⟨_, _, rfl, rfl, by omega, by omega, by simp, by simp, below_two w _ _⟩
  case rest =>
    obtain ⟨P, Q, rfl, rfl, hP, hQ, e1, e2, hB⟩ := hcut
    have tr : ∀ b o v, w.cell? ⟨b, o, none⟩ = some v → wc.cell? ⟨b, o, none⟩ = some v := fun b o v h => (World.cell?_of_block (hB.block b (block_lt_of_cell h))).trans h
    have h0' := tr _ _ _ h0
    have h1' := tr _ _ _ h1
    have a2' := tr _ _ _ a2
    have b2' := tr _ _ _ b2
    have c1' := tr _ _ _ c1
    have c2' := tr _ _ _ c2
    have d1' := tr _ _ _ d1
    have d2' := tr _ _ _ d2
    clear h0 h1 a1 a2 b1 b2 c1 c2 d1 d2 tr
    have HB : Hid (Go.RowKit.Below w.heap.size w wc) := hB
    clear hB
    by_cases hxy : x = y
    · subst hxy
      go_wp2_with fail
      go_quiet (fail)
      go_wp2
      go_ret
      exact ⟨rfl, ⟨HB.out.os, HB.out.tape, HB.out.output, HB.out.size, HB.out.block⟩⟩
    · go_wp2
      go_ret
      exact ⟨rfl, HB.out⟩

end Go.Proofs.Ybulkaixg.Srt
