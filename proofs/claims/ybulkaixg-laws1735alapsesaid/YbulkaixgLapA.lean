/-
  zzs1735aname (9); the row of releases 'prior'.
-/
import Derived.Test.YbulkaixgFree
import Derived.Laws.BytesArg
import Derived.Laws.OwnMore
namespace Go.Proofs.Ybulkaixg.Lapse
open Go.RowKit Go.Maps Go.WideMaps Go.RwLone Cmp Mp Marks
set_option linter.unusedVariables false
set_option linter.unusedSimpArgs false
set_option maxRecDepth 100000
attribute [local go_sem ↓] Go.wp_at_zero Go.wp_at_succ

def nm (i : Nat) : ByteArray := strOfNums [112, (i : Int) / 256, (i : Int) % 256]
theorem nm_size (i : Nat) : (nm i).size ≤ maxLen := by
  have h : (nm i).size = 3 := by simp [nm, strOfNums, ByteArray.size]
  rw [h]; unfold maxLen; omega

theorem aname (i : Nat) (hi : i < 1024) (w : World) : Calls Yba.prog 9 #[.int .i64 i] w fun e w' => e = .returned (.string (nm i)) ∧ ∃ o : Obj, w' = w.alloc o := by
  have hc := run_convert_bytes_arg (P := Yba.prog) (w.alloc (.cells #[.int .u8 112, .int .u8 ((i : Int) / 256), .int .u8 ((i : Int) % 256)] 5)) 55 5 Yba.underlying55 Yba.underlying5 w.heap.size 0 3 3 [112, (i : Int) / 256, (i : Int) % 256] rfl (by
    intro j hj
    match j, hj with
    | 0, _ => simp
    | 1, _ => simp
    | 2, _ => simp) 9 Yba.underlying9
  go_enter Yba.func9, Yba.ntmps9
  go_wp2
  go_ret
  exact ⟨rfl, _, rfl⟩

/-- 'prior': n releases of four cells at block Pb, the first m of them written. -/
def Pri (w : World) (Pb n m : Nat) : Prop :=
  Pb < w.heap.size ∧ (∀ j, j < n * 4 → (w.cell? ⟨Pb, j, none⟩).isSome = true ∧ w.frozen? ⟨Pb, j, none⟩ = false) ∧
    ∀ i, i < m → w.cell? ⟨Pb, i * 4, none⟩ = some (.string (nm i)) ∧ w.cell? ⟨Pb, i * 4 + 1, none⟩ = some (.int .i64 i) ∧ w.cell? ⟨Pb, i * 4 + 2, none⟩ = some (.int .u64 0) ∧ w.cell? ⟨Pb, i * 4 + 3, none⟩ = some (.string ⟨#[]⟩)

theorem Pri.keep {bs : List Nat} {w w' : World} {Pb n m : Nat} (h : Pri w Pb n m) (hf : Fr bs w w') (hb : Pb ∉ bs) : Pri w' Pb n m := by
  obtain ⟨hl, hs, hc⟩ := h
  have e : w'.heap[Pb]? = w.heap[Pb]? := hf.block Pb hl hb
  refine ⟨Nat.lt_of_lt_of_le hl hf.size, fun j hj => ⟨?_, ?_⟩, fun i hi => ?_⟩
  · rw [World.cell?_of_block (a := ⟨Pb, j, none⟩) e]; exact (hs j hj).1
  · rw [World.frozen?_of_block (a := ⟨Pb, j, none⟩) e]; exact (hs j hj).2
  · obtain ⟨h0, h1, h2, h3⟩ := hc i hi
    exact ⟨hf.cell hb h0, hf.cell hb h1, hf.cell hb h2, hf.cell hb h3⟩

theorem info37 : ∃ i z, Yba.prog.info? 37 = some i ∧ i.zero = some z ∧ i.size = 4 ∧ i.bytes ≤ 100 ∧ z.cells.size = 4 := by
  have h : (Yba.prog.info? 37).map (fun i => (i.zero.map (fun z => z.cells.size), i.size, decide (i.bytes ≤ 100))) = some (some 4, 4, true) := by kernel_rfl
  obtain ⟨i, hi, hb⟩ := Option.map_eq_some_iff.1 h
  simp only [Prod.mk.injEq, decide_eq_true_eq] at hb
  obtain ⟨z, hz, hzs⟩ := Option.map_eq_some_iff.1 hb.1
  exact ⟨i, z, hi, hz, hb.2.1, hb.2.2, hzs⟩

theorem prior_make (n : Nat) (hn : n ≤ 1024) (W : World) : ∃ w', (Instr.makeSlice 34 (.int .i64 (n : Int)) (.int .i64 (n : Int))).run Yba.prog W = .ok (.slice (some ⟨W.heap.size, 0, none⟩) n n) w' ∧ Pri w' W.heap.size n 0 ∧ Fr [] W w' := by
  obtain ⟨i, z, hi, hz, his, hib, hzs⟩ := info37
  have hby : i.bytes * n ≤ 281474976710656 := by
    have : i.bytes * n ≤ 100 * 1024 := Nat.mul_le_mul hib hn
    omega
  obtain ⟨w', hrun, hown, hgr⟩ := run_makeSlice_full W 0 34 37 i z 4 Yba.underlying34 hi hz his .i64 .i64 n (by omega) hby (by unfold maxLen; omega) (Nat.zero_le _)
  refine ⟨w', hrun, ?_, grownO hgr (fun b hb => by cases hb)⟩
  obtain ⟨hl, ⟨h, _⟩ | ⟨g, cap, cur, e, hb, hg, hc, hm, hs, ht⟩⟩ := hown
  · cases h
  · have e := Value.slice.inj e
    obtain ⟨e1, e2, e3⟩ := e
    have e1 := Option.some.inj e1
    obtain rfl : W.heap.size = g := congrArg Addr.block e1
    subst e3
    refine ⟨(Array.getElem?_eq_some_iff.1 hg).1, fun j hj => ⟨?_, ?_⟩, fun i hi => absurd hi (by omega)⟩
    · rw [cell_of_row w' _ _ cur 37 (0, 0) hg]
      have : j < cur.size := by omega
      simp [this]
    · simp [World.frozen?, hg]

theorem Pri.step {w : World} {Pb n m : Nat} (h : Pri w Pb n m) (hm : m < n) :
    Pri ((((w.setCell ⟨Pb, m * 4, none⟩ (.string (nm m))).setCell ⟨Pb, m * 4 + 1, none⟩ (.int .i64 m)).setCell ⟨Pb, m * 4 + 2, none⟩ (.int .u64 0)).setCell ⟨Pb, m * 4 + 3, none⟩ (.string ⟨#[]⟩)) Pb n (m + 1) := by
  obtain ⟨hl, hs, hc⟩ := h
  obtain ⟨w', hw'⟩ : ∃ w', w' = w.setCells Pb (m * 4) [.string (nm m), .int .i64 m, .int .u64 0, .string ⟨#[]⟩] := ⟨_, rfl⟩
  have e4 : ((((w.setCell ⟨Pb, m * 4, none⟩ (.string (nm m))).setCell ⟨Pb, m * 4 + 1, none⟩ (.int .i64 m)).setCell ⟨Pb, m * 4 + 2, none⟩ (.int .u64 0)).setCell ⟨Pb, m * 4 + 3, none⟩ (.string ⟨#[]⟩)) = w' := by rw [hw']; rfl
  rw [e4]
  have hin := World.cell?_setCells_in Pb [.string (nm m), .int .i64 m, .int .u64 0, .string ⟨#[]⟩] (m * 4) w (by
    intro j hj
    exact (hs (m * 4 + j) (by simp at hj; omega)).1)
  rw [← hw'] at hin
  refine ⟨by rw [hw']; exact Nat.lt_of_lt_of_le hl (grown_setCells Pb _ _ w).size, fun j hj => ⟨?_, ?_⟩, fun i hi => ?_⟩
  · rw [hw']; exact World.isSome_setCells Pb _ _ _ _ (hs j hj).1
  · rw [hw', World.frozen?_setCells]; exact (hs j hj).2
  · by_cases e : i = m
    · subst e
      exact ⟨hin 0 (by simp), hin 1 (by simp), hin 2 (by simp), hin 3 (by simp)⟩
    · have hi' : i < m := by omega
      obtain ⟨h0, h1, h2, h3⟩ := hc i hi'
      refine ⟨?_, ?_, ?_, ?_⟩ <;> rw [hw', World.cell?_setCells_out Pb _ _ _ _ (by intro _ _; left; simp; omega)] <;> assumption

end Go.Proofs.Ybulkaixg.Lapse
