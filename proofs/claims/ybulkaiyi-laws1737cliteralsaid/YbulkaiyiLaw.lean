/-
  THE WALK of dht.LawS1737CLiteral (3).
-/
import Derived.Test.YbulkaiyiWalks
import Derived.Test.YbulkaiyiZero
namespace Go.Proofs.Ybulkaiyi
open Go.RowKit Go.MuLone
set_option linter.unusedSimpArgs false
set_option linter.unusedVariables false

set_option maxRecDepth 100000 in
theorem law_any (rft rep lim byt exp : Int) (w : World) :
    Calls Yba.prog 3 #[.int .i64 rft, .int .i64 rep, .int .i64 lim, .int .i64 byt, .int .i64 exp] w fun e w' => e = .returned (.bool true) ∧ Below w.heap.size w w' := by
  obtain ⟨Z, hz, hsz, z29⟩ := zero89
  go_enter Yba.func3, Yba.ntmps3
  go_wp2_with fail
  obtain ⟨C, hC⟩ : ∃ C : Array Value, C = ((((((((((((((((Z.setIfInBounds 178 (.int .i64 rft)).setIfInBounds 179 (.int .i64 lim)).setIfInBounds 180 (.int .i64 byt)).setIfInBounds 181 (.int .i64 exp)).setIfInBounds 182 (.int .u64 0)).setIfInBounds 183 (.int .i64 0)).setIfInBounds 184 (.pointer none)).setIfInBounds 185 (.map none)).setIfInBounds 186 (.slice none 0 0)).setIfInBounds 187 (.int .i64 0)).setIfInBounds 188 (.slice none 0 0)).setIfInBounds 189 (.map none)).setIfInBounds 190 (.map none)).setIfInBounds 191 (.slice none 0 0)).setIfInBounds 192 (.slice none 0 0)).setIfInBounds 196 (.int .i64 rep)) := ⟨_, rfl⟩
  rw [← hC]
  have k29 : C[29]? = some (.int .i32 0) := by rw [hC]; simp [Array.getElem?_setIfInBounds, z29]
  have k178 : C[178]? = some (.int .i64 rft) := by rw [hC]; simp [Array.getElem?_setIfInBounds, hsz]
  have k179 : C[179]? = some (.int .i64 lim) := by rw [hC]; simp [Array.getElem?_setIfInBounds, hsz]
  have k180 : C[180]? = some (.int .i64 byt) := by rw [hC]; simp [Array.getElem?_setIfInBounds, hsz]
  have k181 : C[181]? = some (.int .i64 exp) := by rw [hC]; simp [Array.getElem?_setIfInBounds, hsz]
  have k196 : C[196]? = some (.int .i64 rep) := by rw [hC]; simp [Array.getElem?_setIfInBounds, hsz]
  clear hC z29 hsz hz
  obtain ⟨w1, hw1⟩ : ∃ w1 : World, w1 = w.alloc (.cells C 89) := ⟨_, rfl⟩
  rw [← hw1]
  have c29 : w1.cell? ⟨w.heap.size, 29, none⟩ = some (.int .i32 0) := by rw [hw1]; simp [k29]
  have c178 : w1.cell? ⟨w.heap.size, 178, none⟩ = some (.int .i64 rft) := by rw [hw1]; simp [k178]
  have c179 : w1.cell? ⟨w.heap.size, 179, none⟩ = some (.int .i64 lim) := by rw [hw1]; simp [k179]
  have c180 : w1.cell? ⟨w.heap.size, 180, none⟩ = some (.int .i64 byt) := by rw [hw1]; simp [k180]
  have c181 : w1.cell? ⟨w.heap.size, 181, none⟩ = some (.int .i64 exp) := by rw [hw1]; simp [k181]
  have c196 : w1.cell? ⟨w.heap.size, 196, none⟩ = some (.int .i64 rep) := by rw [hw1]; simp [k196]
  have z29 : w1.frozen? ⟨w.heap.size, 29, none⟩ = false := by rw [hw1]; simp
  have hs : w1.heap.size = w.heap.size + 1 := by rw [hw1]; simp
  have hlt : w.heap.size < w1.heap.size := by omega
  have hlt2 : w.heap.size < w1.heap.size + 1 := by omega
  have hbel : Below w.heap.size w w1 := by rw [hw1]; exact (Below.refl _ _).alloc (Nat.le_refl _) _
  clear hw1 k29 k178 k179 k180 k181 k196 hs
  refine (config_any w.heap.size rft rep lim exp w1 hlt c29 z29 c178 c179 c181 c196).mono ?_
  rintro e w' ⟨rfl, o, rfl⟩
  go_wp2_with fail
  refine (try_free ⟨w.heap.size, 29, none⟩ _ ?_ ?_).mono ?_
  · simp [go_sem, World.cell?_alloc_past, hlt, hlt2, c29]
  · simp [go_sem, World.frozen?_alloc_past, hlt, hlt2, z29]
  rintro e w' ⟨rfl, rfl⟩
  go_wp2_with fail
  refine (unlock_held Yba.muLib ⟨w.heap.size, 29, none⟩ _ ?_ ?_).mono ?_
  · simp [go_sem, World.cell?_alloc_past, hlt, hlt2]
    exact World.cell?_setCell_same _ _ _ (World.cell?_setCell_same _ _ _ (World.cell?_setCell_same _ _ _ c29))
  · simp [go_sem, World.frozen?_alloc_past, hlt, hlt2, z29]
  rintro e w' ⟨rfl, rfl⟩
  go_wp2_with fail
  go_ret
  refine ⟨rfl, ?_⟩
  exact ((((((hbel.setCell (Nat.le_refl _) _).setCell (Nat.le_refl _) _).setCell (Nat.le_refl _) _).setCell (Nat.le_refl _) _).alloc (by simp; omega) _).alloc (by simp; omega) _).drew

end Go.Proofs.Ybulkaiyi
