/-
  lockIndex.locksOn (9) at an index that counts nothing: 0.
-/
import Derived.Test.YbulkaixuDoorSeq
import Derived.Shelf.RegionOpen
namespace Go.Proofs.YbulkaixuDoor.Walk
open Go.RowKit Go.Shelf
set_option linter.unusedVariables false
set_option linter.unusedSimpArgs false
set_option maxRecDepth 100000
attribute [local go_sem] Oper.semAt_some

theorem new1 (W : World) (v : Value) (t : TypeId) : (W.alloc (.cells #[v] t)).cell? ⟨W.heap.size, 0, none⟩ = some v ∧ (W.alloc (.cells #[v] t)).frozen? ⟨W.heap.size, 0, none⟩ = false := ⟨by simp, by simp⟩
theorem old1 {W : World} {a : Addr} {v : Value} (o : Obj) (h : W.cell? a = some v) : (W.alloc o).cell? a = some v := cell_kept h (World.grownBy_alloc W o none) (fun r e => by cases e)
theorem oldz {W : World} {a : Addr} {v : Value} (o : Obj) (h : W.cell? a = some v) (hf : W.frozen? a = false) : (W.alloc o).frozen? a = false := (frozen_kept h (World.grownBy_alloc W o none) (fun r e => by cases e)).trans hf

set_option maxHeartbeats 2000000 in
theorem locks_zero (X : Nat) (b0 : Option Addr) (m cb : Nat) (f : Nat → Nat) (hm : m ≤ 1024) (w : World) (hE : Empty w X) (hX : X < w.heap.size) (hW : WordB w w.heap.size b0 m f) (hT : Tab w) :
    Calls Ybad.prog 9 #[.pointer (some ⟨X, 0, none⟩), .slice b0 m cb] w fun e W' => e = .returned (.int .i64 0) ∧ Below w.heap.size w W' := by
  refine (callsIn_wide (n := 6)).1 ?_
  have h00 : 0 < w.heap.size := by omega
  refine callsIn_of_wp_marks Ybad.func9 rfl trivial ?_ rfl
  simp only [Ybad.ntmps9, List.size_toArray, List.length_cons, List.length_nil, Nat.reduceAdd, Nat.reduceSub, Array.replicate_succ, Array.replicate_zero, List.push_toArray, List.append_toArray, List.nil_append, List.cons_append]
  gi_wp2
  refine ⟨trivial, (all_any b0 m cb _ _).mono ?_⟩
  rintro e w' ⟨rfl, rfl⟩
  gi_wp2
  have c0 := new1 w (.pointer (some ⟨X, 0, none⟩)) 30
  have c1 := new1 (w.alloc (.cells #[.pointer (some ⟨X, 0, none⟩)] 30)) (.int .i64 0) 3
  have c2 := new1 ((w.alloc (.cells #[.pointer (some ⟨X, 0, none⟩)] 30)).alloc (.cells #[.int .i64 0] 3)) (.slice b0 m cb) 47
  simp only [World.size_alloc] at c1 c2
  have hB0 : Below w.heap.size w (((w.alloc (.cells #[.pointer (some ⟨X, 0, none⟩)] 30)).alloc (.cells #[.int .i64 0] 3)).alloc (.cells #[.slice b0 m cb] 47)) := (((Below.refl _ w).alloc (Nat.le_refl _) _).alloc (by simp) _).alloc (by simp; omega) _
  have hE0 : Empty (((w.alloc (.cells #[.pointer (some ⟨X, 0, none⟩)] 30)).alloc (.cells #[.int .i64 0] 3)).alloc (.cells #[.slice b0 m cb] 47)) X := hE.keep (bs := []) (Fr.below hB0) (by simp)
  refine wpIn_rangeFunc_ownF (F := Fence.wide) (n := 6) rfl (by omega) (gf := 16) (lb := #[.pointer (some ⟨w.heap.size + 1 + 1, 0, none⟩)]) rfl trivial (enters_of Ybad.func16 (by kernel_rfl) rfl)
    (all_stops 5 (by omega) (w.heap.size + 1 + 1) w.heap.size h00 b0 m cb f hm _ (by simp) (by simp; omega) c2.1 (hW.below hB0) (hT.keep hB0)) belowK_t (belowK_b (by simp; omega)) (Below.refl _ _) (fun _ => rfl)
    (fun pre W => (W.cell? ⟨w.heap.size + 1, 0, none⟩ = some (.int .i64 0) ∧ W.frozen? ⟨w.heap.size + 1, 0, none⟩ = false ∧ W.cell? ⟨w.heap.size, 0, none⟩ = some (.pointer (some ⟨X, 0, none⟩)) ∧ Empty W X) ∧ Below w.heap.size w W)
    (fun _ _ _ => False)
    (OwnFrom.and (Own.from (fun s A B row hs hg hr => ⟨cell_kept hs.1 hg hr, (frozen_kept hs.1 hg hr).trans hs.2.1, cell_kept hs.2.2.1 hg hr, cell_kept hs.2.2.2.1 hg hr, fun k hk => cell_kept (hs.2.2.2.2 k hk) hg hr⟩) _) (ownFrom_below (Nat.le_refl _) (by simp; omega)))
    (fun _ _ _ _ _ hs _ _ => hs)
    ⟨⟨old1 _ c1.1, oldz _ c1.1 c1.2, old1 _ (old1 _ c0.1), hE0⟩, hB0⟩
    (fun x => { tmps := #[.pointer (some ⟨X, 0, none⟩), .slice b0 m cb, .pointer (some ⟨w.heap.size, 0, none⟩), undef, .int .i64 0, .pointer (some ⟨w.heap.size + 1, 0, none⟩), .int .u16 (x.1 : Nat), .slice b0 m cb, .func (.func 16) #[] #[.pointer (some ⟨w.heap.size + 1 + 1, 0, none⟩)], .int .u16 (x.1 : Nat), undef, undef, undef, undef, undef, undef], defers := [] }) ?assign ?body ?done ?stop
  case assign =>
    intro l x W K hK
    gi_wp2
    exact hK
  case body =>
    rintro l pre x W ⟨⟨hc, hf, hx, hEW⟩, hB⟩ _
    have hmx : Ybad.prog.follows .mixedOrders = true := by kernel_rfl
    gi_wp2
    gi_region_with_o (refine ⟨trivial, (CallsIn.inRound l (callsIn_wide.2 (count_zero X x.1 W.drew x.2 hEW))).mono ?_⟩; rintro e w' ⟨rfl, hw'⟩; subst hw')
    all_goals gi_wp2
    all_goals
      have hw0 : IntKind.i64.wrap 0 = 0 := by decide
      rw [hw0]
      have hBW : Below w.heap.size W (W.setCell ⟨w.heap.size + 1, 0, none⟩ (.int .i64 0)).drew := ((Below.refl w.heap.size W).setCell (p := ⟨w.heap.size + 1, 0, none⟩) (by simp) _).drew
      have hfr : Fr [w.heap.size + 1] W (W.setCell ⟨w.heap.size + 1, 0, none⟩ (.int .i64 0)).drew := (Fr.set W (by simp) _).drew
      have hz : (W.setCell ⟨w.heap.size + 1, 0, none⟩ (.int .i64 0)).drew.frozen? ⟨w.heap.size + 1, 0, none⟩ = false := by
        have h2 : (W.setCell ⟨w.heap.size + 1, 0, none⟩ (.int .i64 0)).frozen? ⟨w.heap.size + 1, 0, none⟩ = false := by rw [World.frozen?_setCell]; exact hf
        exact h2
      exact ⟨(KeepsOthers.setCell _ _ _).trans (KeepsOthers.drew _), hBW, ⟨World.cell?_setCell_same W _ _ hc, hz, hfr.cell (by simp) hx, hEW.keep hfr (by simp; omega)⟩, hB.trans hBW⟩
  case done =>
    rintro D ys W hD _ ⟨⟨hc, _, _, _⟩, hB⟩ hK
    gi_wp2
    refine ⟨by simp, .inl ⟨_, _, rfl, run_takeDeferred hK, ?_⟩⟩
    exact ⟨_, results_tmp rfl _ _ _, rfl, hB.trans (belowK_b (w := w) (Nat.le_refl _) W D _ _ (by simp at hD; omega) hK rfl rfl)⟩
  case stop =>
    rintro D c pre W _ _ h _
    exact h.elim

end Go.Proofs.YbulkaixuDoor.Walk
