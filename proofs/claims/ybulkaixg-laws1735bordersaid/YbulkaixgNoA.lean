/-
  newOrder (29): the blocks are laid.
-/
import Derived.Test.YbulkaixgSkA
namespace Go.Proofs.Ybulkaixg.Ord
open Go.RowKit
set_option linter.unusedVariables false
set_option linter.unusedSimpArgs false
set_option maxRecDepth 100000

/-- countTimed. -/
theorem ct_walk (Z : Array Value) (t : Int) (hz : Z[7]? = some (.int .i64 t)) (w : World) :
    Calls Yba.prog 49 #[.agg Z] w fun e w' => e = .returned (.int .i64 (if t = 0 then 0 else 1)) ∧ w' = w.alloc (.cells Z 137) := by
  go_enter Yba.func49, Yba.ntmps49
  by_cases h : t = 0
  · subst h
    go_wp2
    go_ret
    exact ⟨rfl, rfl⟩
  · go_wp2
    go_ret
    exact ⟨by simp [h], rfl⟩

/-- How many the j-th block holds. -/
def blen (m j : Nat) : Nat := min (j * 256 + 256) m - j * 256
theorem blen_eq (m t : Nat) : (min (((t : Int) + 1) * 256) (m : Int)).toNat - t * 256 = blen m t := by unfold blen; omega

theorem alloc_old (w : World) (o : Obj) (b k : Nat) (h : b < w.heap.size) : (w.alloc o).cell? ⟨b, k, none⟩ = w.cell? ⟨b, k, none⟩ := World.cell?_of_block (Below.heap_alloc w o b h)
theorem alloc_oldf (w : World) (o : Obj) (b k : Nat) (h : b < w.heap.size) : (w.alloc o).frozen? ⟨b, k, none⟩ = w.frozen? ⟨b, k, none⟩ := World.frozen?_of_block (Below.heap_alloc w o b h)
theorem alloc_new (w : World) (Z : Array Value) (T : TypeId) (b k : Nat) (h : b = w.heap.size) : (w.alloc (.cells Z T)).cell? ⟨b, k, none⟩ = Z[k]? := World.cell?_alloc_at _ _ _ _ h
theorem alloc_newf (w : World) (Z : Array Value) (T : TypeId) (b k : Nat) (h : b = w.heap.size) : (w.alloc (.cells Z T)).frozen? ⟨b, k, none⟩ = false := World.frozen?_alloc_at _ _ _ _ h

/-- The order under way: t of the NB blocks are laid. -/
structure L1 (w wx : World) (rb xb yb zb ob pb m NB t : Nat) : Prop where
  kp : Kp (fun _ => False) w wx
  size : wx.heap.size = pb + t
  o0 : w.heap.size ≤ rb
  o1 : rb < xb
  o2 : xb < yb
  o3 : yb < zb
  o4 : zb < ob
  o5 : ob < pb
  res : ∃ v, wx.cell? ⟨rb, 0, none⟩ = some v
  x : ∀ i, i < m → wx.cell? ⟨xb, i, none⟩ = some (.pointer none)
  y : ∀ i, i < m → wx.cell? ⟨yb, i, none⟩ = some (.int .u64 0)
  z0 : ∀ j, j < t → wx.cell? ⟨zb, j, none⟩ = some (.pointer (some ⟨pb + j, 0, none⟩))
  z1 : ∀ j, t ≤ j → j < NB → wx.cell? ⟨zb, j, none⟩ = some (.pointer none)
  o : wx.cell? ⟨ob, 0, none⟩ = some (.slice (some ⟨zb, 0, none⟩) NB NB)
  b0 : ∀ j, j < t → wx.cell? ⟨pb + j, 0, none⟩ = some (.slice (some ⟨xb, j * 256, none⟩) (blen m j) (blen m j))
  b1 : ∀ j, j < t → wx.cell? ⟨pb + j, 1, none⟩ = some (.slice (some ⟨yb, j * 256, none⟩) (blen m j) (blen m j))
  b2 : ∀ j, j < t → wx.cell? ⟨pb + j, 2, none⟩ = some (.int .i64 0)
  fz : ∀ b o, rb ≤ b → b < pb + t → wx.frozen? ⟨b, o, none⟩ = false

theorem L1.step {w wx : World} {rb xb yb zb ob pb m NB t : Nat} (h : L1 w wx rb xb yb zb ob pb m NB t) (ht : t < NB) :
    L1 w ((wx.setCell ⟨zb, t, none⟩ (.pointer (some ⟨pb + t, 0, none⟩))).alloc (.cells #[.slice (some ⟨xb, t * 256, none⟩) (blen m t) (blen m t), .slice (some ⟨yb, t * 256, none⟩) (blen m t) (blen m t), .int .i64 0] 150)).drew rb xb yb zb ob pb m NB (t + 1) := by
  have hs := h.size
  have o0 := h.o0; have o1 := h.o1; have o2 := h.o2; have o3 := h.o3; have o4 := h.o4; have o5 := h.o5
  have old : ∀ b k, b < pb + t → ¬ (b = zb ∧ k = t) → ((wx.setCell ⟨zb, t, none⟩ (.pointer (some ⟨pb + t, 0, none⟩))).alloc (.cells #[.slice (some ⟨xb, t * 256, none⟩) (blen m t) (blen m t), .slice (some ⟨yb, t * 256, none⟩) (blen m t) (blen m t), .int .i64 0] 150)).drew.cell? ⟨b, k, none⟩ = wx.cell? ⟨b, k, none⟩ := fun b k hb hn => by
    rw [World.cell?_drew, alloc_old _ _ _ _ (by simp; omega), cset_ne _ _ _ _ _ _ hn]
  have new : ∀ k, ((wx.setCell ⟨zb, t, none⟩ (.pointer (some ⟨pb + t, 0, none⟩))).alloc (.cells #[.slice (some ⟨xb, t * 256, none⟩) (blen m t) (blen m t), .slice (some ⟨yb, t * 256, none⟩) (blen m t) (blen m t), .int .i64 0] 150)).drew.cell? ⟨pb + t, k, none⟩ = (#[.slice (some ⟨xb, t * 256, none⟩) (blen m t) (blen m t), .slice (some ⟨yb, t * 256, none⟩) (blen m t) (blen m t), .int .i64 0] : Array Value)[k]? := fun k => by
    rw [World.cell?_drew, alloc_new _ _ _ _ _ (by simp; omega)]
  refine ⟨?_, ?_, o0, o1, o2, o3, o4, o5, ?_, ?_, ?_, ?_, ?_, ?_, ?_, ?_, ?_, ?_⟩
  · exact ((h.kp.set (Or.inr (by simp; omega)) _).alloc _).drew
  · simp; omega
  · obtain ⟨v, hv⟩ := h.res
    exact ⟨v, by rw [old _ _ (by omega) (by omega)]; exact hv⟩
  · intro i hi; rw [old _ _ (by omega) (by omega)]; exact h.x i hi
  · intro i hi; rw [old _ _ (by omega) (by omega)]; exact h.y i hi
  · intro j hj
    by_cases e : j = t
    · subst e
      rw [World.cell?_drew, alloc_old _ _ _ _ (by simp; omega)]
      exact cset_eq _ _ _ _ _ (h.z1 j (Nat.le_refl _) ht)
    · rw [old _ _ (by omega) (by omega)]; exact h.z0 j (by omega)
  · intro j hj hj2; rw [old _ _ (by omega) (by omega)]; exact h.z1 j (by omega) hj2
  · rw [old _ _ (by omega) (by omega)]; exact h.o
  · intro j hj
    by_cases e : j = t
    · subst e; rw [new]; rfl
    · rw [old _ _ (by omega) (by omega)]; exact h.b0 j (by omega)
  · intro j hj
    by_cases e : j = t
    · subst e; rw [new]; rfl
    · rw [old _ _ (by omega) (by omega)]; exact h.b1 j (by omega)
  · intro j hj
    by_cases e : j = t
    · subst e; rw [new]; rfl
    · rw [old _ _ (by omega) (by omega)]; exact h.b2 j (by omega)
  · intro b o hb hb2
    by_cases e : b = pb + t
    · exact alloc_newf _ _ _ _ _ (by simp; omega)
    · refine (alloc_oldf _ _ _ _ (by simp; omega)).trans ?_
      simpa using h.fz b o hb (by omega)

theorem L1.start (w : World) (X Y Z : Array Value) (m NB r0 : Nat) (hr : w.heap.size = r0) (hX : ∀ j, j < m → X[j]? = some (.pointer none)) (hY : ∀ j, j < m → Y[j]? = some (.int .u64 0)) (hZ : ∀ j, j < NB → Z[j]? = some (.pointer none)) :
    L1 w (((((w.alloc (Obj.cells #[Value.slice none 0 0] 53)).alloc (Obj.cells X 131)).alloc (Obj.cells Y 23)).alloc (Obj.cells Z 138)).alloc (Obj.cells #[Value.slice (some ⟨r0 + 1 + 1 + 1, 0, none⟩) NB NB] 53)) r0 (r0 + 1) (r0 + 1 + 1) (r0 + 1 + 1 + 1) (r0 + 1 + 1 + 1 + 1) (r0 + 5) m NB 0 := by
  subst hr
  refine ⟨((((((Kp.refl _ w).alloc _).alloc _).alloc _).alloc _).alloc _), by simp, Nat.le_refl _, by omega, by omega, by omega, by omega, by omega, ?_, ?_, ?_, fun j hj => by omega, ?_, ?_, fun j hj => by omega, fun j hj => by omega, fun j hj => by omega, ?_⟩
  · refine ⟨.slice none 0 0, ?_⟩
    rw [alloc_old _ _ _ _ (by simp; try omega), alloc_old _ _ _ _ (by simp; try omega), alloc_old _ _ _ _ (by simp; try omega), alloc_old _ _ _ _ (by simp; try omega), alloc_new _ _ _ _ _ (by simp)]
    rfl
  · intro i hi
    rw [alloc_old _ _ _ _ (by simp; try omega), alloc_old _ _ _ _ (by simp; try omega), alloc_old _ _ _ _ (by simp; try omega), alloc_new _ _ _ _ _ (by simp)]
    exact hX i hi
  · intro i hi
    rw [alloc_old _ _ _ _ (by simp; try omega), alloc_old _ _ _ _ (by simp; try omega), alloc_new _ _ _ _ _ (by simp)]
    exact hY i hi
  · intro j _ hj
    rw [alloc_old _ _ _ _ (by simp; try omega), alloc_new _ _ _ _ _ (by simp)]
    exact hZ j hj
  · rw [alloc_new _ _ _ _ _ (by simp)]
    rfl
  · intro b o h1 h2
    by_cases e4 : b = w.heap.size + 1 + 1 + 1 + 1
    · exact alloc_newf _ _ _ _ _ (by simp; omega)
    rw [alloc_oldf _ _ _ _ (by simp; omega)]
    by_cases e3 : b = w.heap.size + 1 + 1 + 1
    · exact alloc_newf _ _ _ _ _ (by simp; omega)
    rw [alloc_oldf _ _ _ _ (by simp; omega)]
    by_cases e2 : b = w.heap.size + 1 + 1
    · exact alloc_newf _ _ _ _ _ (by simp; omega)
    rw [alloc_oldf _ _ _ _ (by simp; omega)]
    by_cases e1 : b = w.heap.size + 1
    · exact alloc_newf _ _ _ _ _ (by simp; omega)
    rw [alloc_oldf _ _ _ _ (by simp; omega)]
    exact alloc_newf _ _ _ _ _ (by omega)

end Go.Proofs.Ybulkaixg.Ord
