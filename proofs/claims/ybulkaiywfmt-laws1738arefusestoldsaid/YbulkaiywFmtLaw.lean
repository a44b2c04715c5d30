/-
  THE WALK of prices.LawS1738ARefuses (3).
-/
import Derived.Test.YbulkaiywFmtCalls
import Derived.Deep.OwnRows
import Derived.Handy
namespace Go.Proofs.YbulkaiywFmt
open Go.RowKit Go.Extern.Stop Go.Stop Go.Extern Go.Deep
set_option linter.unusedSimpArgs false
set_option linter.unusedVariables false
set_option linter.unnecessarySimpa false

theorem info9 : (Ybaf.prog.info? 9).map (fun i => (i.zero, i.size, i.bytes)) = some (some (.string ⟨#[]⟩), 1, 16) := by kernel_rfl
theorem size9 : (Ybaf.prog.info? 9).map (·.size) = some 1 := by kernel_rfl

/-- too many, or none: true at once. -/
theorem law_short (path : ByteArray) (a : Option Addr) (len cap : Nat) (n : Int) (w : World) (h : 1024 < len ∨ len = 0) (hm : len ≤ maxLen) :
    Calls Ybaf.prog 3 #[.string path, .slice a len cap, .int .i64 n] w fun e w' => e = .returned (.bool true) ∧ Below w.heap.size w w' := by
  rcases h with h | h
  · have h1 : (1024 : Int) < (len : Int) := by omega
    go_enter Ybaf.func3, Ybaf.ntmps3
    go_wp2
    go_ret
    exact ⟨rfl, Below.refl _ _⟩
  · subst h
    go_enter Ybaf.func3, Ybaf.ntmps3
    go_wp2
    go_ret
    exact ⟨rfl, Below.refl _ _⟩

/-- 'copy' of len strings into the row that 'make' has just laid. -/
theorem copied (w : World) (a : Addr) (len cap : Nat) (cs : List Value) (hlen : cs.length = len) (hsrc : ∀ j v, cs[j]? = some v → w.cell? (a.add j) = some v) (ha : a.block < w.heap.size) (h1 : ∀ v ∈ cs, v.oneCell' = true) :
    ∃ w2 : World, (Builtin.copy_ #[22, 22] 3 #[.slice (some ⟨w.heap.size, 0, none⟩) len len, .slice (some a) len cap]).run Ybaf.prog (w.alloc (.cells (madeCells #[.string ⟨#[]⟩] len) 9)) = .ok (.int .i64 len) w2 ∧
      Below w.heap.size w w2 ∧ w2.heap.size = w.heap.size + 1 ∧ ∀ j v, cs[j]? = some v → w2.cell? ⟨w.heap.size, j, none⟩ = some v := by
  have hg : (w.alloc (.cells (madeCells #[.string ⟨#[]⟩] len) 9)).heap[w.heap.size]? = some (.cells (madeCells #[.string ⟨#[]⟩] len) 9 (0, 0)) := heap_alloc_new w _
  have hsz : (madeCells #[Value.string ⟨#[]⟩] len).size = len := by simp [madeCells]
  have hrun := run_copy_row (P := Ybaf.prog) (w.alloc (.cells (madeCells #[.string ⟨#[]⟩] len) 9)) 22 22 3 9 w.heap.size 0 len len a len cap _ 9 cs Ybaf.underlying22 size9 hg (by rw [hlen]; simp)
    (fun j v hj => by rw [World.cell?_alloc_lt _ _ _ (by unfold Addr.add; split <;> simpa using ha)]; exact hsrc j v hj) (by rw [hsz, hlen]; omega) h1
  rw [hlen] at hrun
  refine ⟨_, hrun, below_setRow ((Below.refl _ _).alloc (Nat.le_refl _) _) (Nat.le_refl _) _, by simp [World.setRow], ?_⟩
  intro j v hj
  rw [cell_setRow_same _ _ _ _ _ _ _ hg]
  simp [hsz, hj]
  rw [List.getElem?_append_left (List.getElem?_eq_some_iff.1 hj).1]
  exact hj

theorem unpriced_any (F : Interp) (d b n : Nat) (path : ByteArray) (ss : List ByteArray) (m : Int) (w : World) (hF : F.answers w.tape) (hn : 1 ≤ n) (hn' : n ≤ 1024) (hl : ss.length = n)
    (cd : w.cell? ⟨d, 0, none⟩ = some (.string path)) (hd : d < w.heap.size) (hb : b < w.heap.size)
    (hc : ∀ j, j < n → w.cell? ⟨b, j, none⟩ = some (.string (ss.getD j ByteArray.empty))) :
    Calls Ybaf.prog 4 #[.pointer (some ⟨d, 0, none⟩), .slice (some ⟨b, 0, none⟩) n n, .int .i64 m] w fun e w' => (∃ a : Addr, e = .returned (.iface 37 (.pointer (some a)))) ∧ Below w.heap.size w w' := by
  by_cases h : n = 1
  · subst h
    exact unpriced_one F d b path ss m w hF cd hd hb hc
  · exact unpriced_more F d b n path ss m w hF (by omega) hn' hl cd hd hb hc

theorem law_some (F : Interp) (path : ByteArray) (a : Addr) (len cap : Nat) (ss : List ByteArray) (n : Int) (w : World) (hF : F.answers w.tape) (h1 : 1 ≤ len) (h2 : len ≤ 1024) (hl : len ≤ ss.length)
    (hc : ∀ i, i < ss.length → w.cell? (a.add i) = some (.string (ss.getD i ByteArray.empty))) (ha : a.block < w.heap.size) :
    Calls Ybaf.prog 3 #[.string path, .slice (some a) len cap, .int .i64 n] w fun e w' => e = .returned (.bool true) ∧ Below w.heap.size w w' := by
  have hmk := run_make_row' (P := Ybaf.prog) 22 9 (.string ⟨#[]⟩) 16 Ybaf.underlying22 info9 rfl .i64 .i64 len (by omega) (by omega)
  have g1 : ¬ (1024 : Int) < (len : Int) := by omega
  have g2 : ((len : Int) == 0) = false := beq_eq_false_iff_ne.2 (by omega)
  obtain ⟨w2, hcp, hbel, hsz, hcell⟩ := copied w a len cap ((ss.take len).map Value.string) (by simp; omega) (fun j v hj => by
    simp only [List.getElem?_map, Option.map_eq_some_iff, List.getElem?_take] at hj
    obtain ⟨s, hs, rfl⟩ := hj
    split at hs
    · rw [hc j (by omega)]; simp [List.getD, hs]
    · cases hs) ha (fun v hv => by obtain ⟨s, _, rfl⟩ := List.mem_map.1 hv; rfl)
  have hF2 : F.answers w2.tape := by rw [hbel.tape]; exact hF
  have hc2 : ∀ j, j < len → w2.cell? ⟨w.heap.size, j, none⟩ = some (.string ((ss.take len).getD j ByteArray.empty)) := fun j hj => by
    apply hcell
    simp [List.getElem?_take, hj, List.getD]
    rw [List.getElem?_eq_getElem (by omega)]; simp
  clear hc hcell
  have HC : Hid (∀ j, j < len → w2.cell? ⟨w.heap.size, j, none⟩ = some (.string ((ss.take len).getD j ByteArray.empty))) := hc2
  clear hc2
  have hlt : w.heap.size < w2.heap.size := by omega
  go_enter Ybaf.func3, Ybaf.ntmps3
  go_wp2_with fail
  refine (unpriced_any F (w.heap.size + 1) w.heap.size len path (ss.take len) n _ ?_ h1 h2 ?_ ?_ ?_ ?_ ?_).mono ?_
  · simpa using hF2
  · simp; omega
  · rw [← hsz]; simp
  · simp [hsz]
  · simp; omega
  · intro j hj
    rw [World.cell?_alloc_past _ _ _ hlt]
    exact HC.out j hj
  rintro e w3 ⟨⟨ae, rfl⟩, hb3⟩
  go_wp2
  go_ret
  exact ⟨rfl, (hbel.alloc (by omega) _).trans (hb3.mono (by simp; omega))⟩

end Go.Proofs.YbulkaiywFmt
