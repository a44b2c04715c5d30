/-
  newReplica (8) without options: the new Replica's cells that the laws look at.
-/
import Derived.Test.YbulkaixgTake
import Derived.Conc.SmallLaws
namespace Go.Proofs.Ybulkaixg.Marks
open Go.RowKit Go.Maps Go.WideMaps Cmp Mp
set_option linter.unusedVariables false
set_option linter.unusedSimpArgs false
set_option maxRecDepth 100000

theorem zs : Yba.zeroCells109.size = 110 := by kernel_rfl
theorem z0 : Yba.zeroCells109[0]? = some (.int .i32 0) := by kernel_rfl
theorem z2 : Yba.zeroCells109[2]? = some (.int .u32 0) := by kernel_rfl
theorem z3 : Yba.zeroCells109[3]? = some (.int .u32 0) := by kernel_rfl
theorem z4 : Yba.zeroCells109[4]? = some (.int .i32 0) := by kernel_rfl
theorem z17 : Yba.zeroCells109[17]? = some (.slice none 0 0) := by kernel_rfl
theorem z44 : Yba.zeroCells109[44]? = some (.map none) := by kernel_rfl

theorem bytes38 : ∃ i, Yba.prog.info? 38 = some i ∧ i.bytes = 0 := by
  have h : (Yba.prog.info? 38).map (·.bytes) = some 0 := by kernel_rfl
  obtain ⟨i, hi, hb⟩ := Option.map_eq_some_iff.1 h
  exact ⟨i, hi, hb⟩
theorem mkChan (w : World) : (Instr.makeChan 62 (.int .i64 0)).run Yba.prog w = .ok (.chan (some w.heap.size)) (w.alloc (.chan 0 #[] false 0 0 false)) := by
  obtain ⟨i, hi, hb⟩ := bytes38
  simpa using Go.Conc.run_makeChan (P := Yba.prog) (w := w) Yba.underlying62 hi .i64 0 (by omega) (by rw [hb]; omega)

/-- The cells of a new Replica, as the literal lays them. -/
theorem built (k m l f s t u g ch : Nat) (C : Nat) : ∃ Z : Array Value,
    (∀ w, (Instr.build 109 #[(1, .map (some k)), (8, .pointer none), (9, .iface 24 (.pointer (some ⟨C, 0, none⟩))), (10, .map (some m)), (11, .map (some l)), (13, .int .i64 400000000), (17, .map (some f)), (26, .map (some s)), (25, .map (some t)), (27, .map (some u)), (29, .chan (some ch)), (41, .map (some g))]).run Yba.prog w = .ok (.agg Z) w) ∧
      Z.size = 110 ∧ Z[0]? = some (.int .i32 0) ∧ Z[2]? = some (.int .u32 0) ∧ Z[3]? = some (.int .u32 0) ∧ Z[4]? = some (.int .i32 0) ∧ Z[6]? = some (.map (some k)) ∧ Z[14]? = some (.iface 24 (.pointer (some ⟨C, 0, none⟩))) ∧ Z[15]? = some (.map (some m)) ∧ Z[16]? = some (.map (some l)) ∧
      Z[17]? = some (.slice none 0 0) ∧ Z[18]? = some (.int .i64 400000000) ∧ Z[44]? = some (.map none) := by
  refine ⟨(((((((((((Yba.zeroCells109.setIfInBounds 6 (.map (some k))).setIfInBounds 13 (.pointer none)).setIfInBounds 14 (.iface 24 (.pointer (some ⟨C, 0, none⟩)))).setIfInBounds 15 (.map (some m))).setIfInBounds 16 (.map (some l))).setIfInBounds 18 (.int .i64 400000000)).setIfInBounds 22 (.map (some f))).setIfInBounds 32 (.map (some s))).setIfInBounds 31 (.map (some t))).setIfInBounds 33 (.map (some u))).setIfInBounds 35 (.chan (some ch))).setIfInBounds 108 (.map (some g)), fun w => ?_, ?_, ?_, ?_, ?_, ?_, ?_, ?_, ?_, ?_, ?_, ?_, ?_⟩
  all_goals kernel_rfl

theorem wpList_build {P : Program} {w : World} {ops : Array Oper} {rest : List Oper} {o : Oper} {a : Act} {Q : Exit → Act → World → Prop} (hg : o.guard = none) (t : TypeId) (parts : Array (Nat × Operand)) (v : Value) (hop : o.op = Op.build t parts)
    (hrun : (Instr.build t (parts.map fun (i, x) => (i, a.eval x))).run P w = .ok v w) (hK : wpList P ops Q rest (a.put o.dst v) w) : wpList P ops Q (o :: rest) a w := by
  refine wpList_plain hg fun K hK' => ?_
  unfold Oper.wp
  simp [execOp, hop, hrun, Result.andThen]
  exact hK' _ _ hK

/-- What the laws look at in a Replica at block R: its maps at K (keys), M (marks), L (released); its clock at C; the lock's word and its count of readers; the slice 'lapsing'. -/
structure Rep (w : World) (R K M L C : Nat) (m0 cnt : Int) (lap : Value) : Prop where
  c0 : w.cell? ⟨R, 0, none⟩ = some (.int .i32 m0)
  c2 : w.cell? ⟨R, 2, none⟩ = some (.int .u32 0)
  c3 : w.cell? ⟨R, 3, none⟩ = some (.int .u32 0)
  c4 : w.cell? ⟨R, 4, none⟩ = some (.int .i32 cnt)
  c6 : w.cell? ⟨R, 6, none⟩ = some (.map (some K))
  c14 : w.cell? ⟨R, 14, none⟩ = some (.iface 24 (.pointer (some ⟨C, 0, none⟩)))
  c15 : w.cell? ⟨R, 15, none⟩ = some (.map (some M))
  c16 : w.cell? ⟨R, 16, none⟩ = some (.map (some L))
  c17 : w.cell? ⟨R, 17, none⟩ = some lap
  c18 : w.cell? ⟨R, 18, none⟩ = some (.int .i64 400000000)
  c44 : w.cell? ⟨R, 44, none⟩ = some (.map none)
  f0 : w.frozen? ⟨R, 0, none⟩ = false
  f4 : w.frozen? ⟨R, 4, none⟩ = false
  f17 : w.frozen? ⟨R, 17, none⟩ = false

theorem new_replica (C : Nat) (w : World) :
    Calls Yba.prog 8 #[.pointer none, .iface 24 (.pointer (some ⟨C, 0, none⟩)), .slice none 0 0] w fun e w' => e = .returned (.pointer (some ⟨w.heap.size + 9, 0, none⟩)) ∧ Below w.heap.size w w' ∧ w'.heap.size = w.heap.size + 10 ∧
      Rep w' (w.heap.size + 9) w.heap.size (w.heap.size + 1) (w.heap.size + 2) C 0 0 (.slice none 0 0) ∧ w'.heap[w.heap.size]? = some (.map #[] 0) ∧ w'.heap[w.heap.size + 1]? = some (.map #[] 0) ∧ w'.heap[w.heap.size + 2]? = some (.map #[] 0) := by
  have hmm := @run_makeMap Yba.prog
  have hmc := mkChan
  obtain ⟨Z, hbuild, hzs, y0, y2, y3, y4, y6, y14, y15, y16, y17, y18, y44⟩ := built w.heap.size (w.heap.size + 1) (w.heap.size + 1 + 1) (w.heap.size + 1 + 1 + 1) (w.heap.size + 1 + 1 + 1 + 1) (w.heap.size + 1 + 1 + 1 + 1 + 1) (w.heap.size + 1 + 1 + 1 + 1 + 1 + 1) (w.heap.size + 1 + 1 + 1 + 1 + 1 + 1 + 1 + 1) (w.heap.size + 1 + 1 + 1 + 1 + 1 + 1 + 1) C
  go_enter Yba.func8, Yba.ntmps8
  have HB := (show Hid _ from hbuild)
  clear hbuild
  iterate 44 go_step
  refine wpList_build rfl 109 _ (.agg Z) rfl ?_ ?_
  · simp only [List.map_toArray, List.map_cons, List.map_nil, Act.eval]
    exact HB.out _
  clear HB
  go_wp2_with fail
  refine wp_loop_rounds 1 ?_
  rw [rounds_succ]
  go_wp2
  go_ret
  refine ⟨rfl, ?_, by simp, ?_, ?_, ?_, ?_⟩
  · exact ((((((((((Below.refl _ _).alloc (Nat.le_refl _) _).alloc (by simp) _).alloc (by simp; omega) _).alloc (by simp; omega) _).alloc (by simp; omega) _).alloc (by simp; omega) _).alloc (by simp; omega) _).alloc (by simp; omega) _).alloc (by simp; omega) _).alloc (by simp; omega) _
  · have hcell : ∀ j v, j ≠ 92 → Z[j]? = some v → ((((((((((w.alloc (.map #[] 0)).alloc (.map #[] 0)).alloc (.map #[] 0)).alloc (.map #[] 0)).alloc (.map #[] 0)).alloc (.map #[] 0)).alloc (.map #[] 0)).alloc (.chan 0 #[] false 0 0 false)).alloc (.map #[] 0)).alloc (.cells (Z.setIfInBounds 92 (.int .i64 (-1))) 109)).cell? ⟨w.heap.size + 9, j, none⟩ = some v := by
      intro j v hj hv
      rw [World.cell?_alloc_at _ _ _ _ (by simp)]
      rw [Array.getElem?_setIfInBounds_ne (by omega)]
      exact hv
    have hfr : ∀ j, ((((((((((w.alloc (.map #[] 0)).alloc (.map #[] 0)).alloc (.map #[] 0)).alloc (.map #[] 0)).alloc (.map #[] 0)).alloc (.map #[] 0)).alloc (.map #[] 0)).alloc (.chan 0 #[] false 0 0 false)).alloc (.map #[] 0)).alloc (.cells (Z.setIfInBounds 92 (.int .i64 (-1))) 109)).frozen? ⟨w.heap.size + 9, j, none⟩ = false := fun j =>
      World.frozen?_alloc_at _ _ _ _ (by simp)
    exact ⟨hcell 0 _ (by omega) y0, hcell 2 _ (by omega) y2, hcell 3 _ (by omega) y3, hcell 4 _ (by omega) y4, hcell 6 _ (by omega) y6, hcell 14 _ (by omega) y14, hcell 15 _ (by omega) y15, hcell 16 _ (by omega) y16, hcell 17 _ (by omega) y17, hcell 18 _ (by omega) y18, hcell 44 _ (by omega) y44, hfr 0, hfr 4, hfr 17⟩
  · rw [Below.heap_alloc _ _ _ (by first | (simp; done) | (simp; omega)), Below.heap_alloc _ _ _ (by first | (simp; done) | (simp; omega)), Below.heap_alloc _ _ _ (by first | (simp; done) | (simp; omega)), Below.heap_alloc _ _ _ (by first | (simp; done) | (simp; omega)), Below.heap_alloc _ _ _ (by first | (simp; done) | (simp; omega)), Below.heap_alloc _ _ _ (by first | (simp; done) | (simp; omega)), Below.heap_alloc _ _ _ (by first | (simp; done) | (simp; omega)), Below.heap_alloc _ _ _ (by first | (simp; done) | (simp; omega)), Below.heap_alloc _ _ _ (by first | (simp; done) | (simp; omega))]
    exact heap_alloc_new w _
  · rw [Below.heap_alloc _ _ _ (by first | (simp; done) | (simp; omega)), Below.heap_alloc _ _ _ (by first | (simp; done) | (simp; omega)), Below.heap_alloc _ _ _ (by first | (simp; done) | (simp; omega)), Below.heap_alloc _ _ _ (by first | (simp; done) | (simp; omega)), Below.heap_alloc _ _ _ (by first | (simp; done) | (simp; omega)), Below.heap_alloc _ _ _ (by first | (simp; done) | (simp; omega)), Below.heap_alloc _ _ _ (by first | (simp; done) | (simp; omega)), Below.heap_alloc _ _ _ (by first | (simp; done) | (simp; omega))]
    have := heap_alloc_new (w.alloc (.map #[] 0)) (.map #[] 0)
    simpa only [World.size_alloc] using this
  · rw [Below.heap_alloc _ _ _ (by first | (simp; done) | (simp; omega)), Below.heap_alloc _ _ _ (by first | (simp; done) | (simp; omega)), Below.heap_alloc _ _ _ (by first | (simp; done) | (simp; omega)), Below.heap_alloc _ _ _ (by first | (simp; done) | (simp; omega)), Below.heap_alloc _ _ _ (by first | (simp; done) | (simp; omega)), Below.heap_alloc _ _ _ (by first | (simp; done) | (simp; omega)), Below.heap_alloc _ _ _ (by first | (simp; done) | (simp; omega))]
    have := heap_alloc_new ((w.alloc (.map #[] 0)).alloc (.map #[] 0)) (.map #[] 0)
    simpa only [World.size_alloc, Nat.add_assoc] using this

end Go.Proofs.Ybulkaixg.Marks
