/-
  What zzs1736cbuild has laid down.
-/
import Derived.Test.YbulkaixuPtrs
import Derived.Test.YbulkaixuRemove
import Derived.Laws.OwnMore
namespace Go.Proofs.Ybulkaixu.Cnt
open Go.RowKit
set_option linter.unusedVariables false
set_option linter.unusedSimpArgs false
set_option maxRecDepth 100000

/-- sb, with S at i. -/
def upd (sb : Nat → Nat) (i S : Nat) : Nat → Nat := fun t => if t = i then S else sb t
theorem upd_same (sb : Nat → Nat) (i S : Nat) : upd sb i S i = S := by simp [upd]
theorem upd_other (sb : Nat → Nat) {i S t : Nat} (h : t ≠ i) : upd sb i S t = sb t := by simp [upd, h]
theorem elem_upd (sb : Nat → Nat) {i S t : Nat} (h : t ≠ i) (q : Nat) : elem (upd sb i S) t q = elem sb t q := by
  unfold elem
  split <;> simp [upd_other sb h]

/-- The live of the first k items. -/
def flv (lvf : Nat → Bool) (k : Nat) : List Nat := (List.range k).filter lvf
theorem flv_yes {lvf : Nat → Bool} {k : Nat} (h : lvf k = true) : flv lvf (k + 1) = flv lvf k ++ [k] := by
  unfold flv
  rw [List.range_succ, List.filter_append]
  simp [h]
theorem flv_no {lvf : Nat → Bool} {k : Nat} (h : lvf k = false) : flv lvf (k + 1) = flv lvf k := by
  unfold flv
  rw [List.range_succ, List.filter_append]
  simp [h]
theorem flv_le (lvf : Nat → Bool) (k : Nat) : (flv lvf k).length ≤ k := by
  have := List.length_filter_le lvf (List.range k)
  simpa [flv] using this
theorem flv_lt {lvf : Nat → Bool} {k j : Nat} (h : j < (flv lvf k).length) : (flv lvf k).getD j 0 < k := by
  have hm : (flv lvf k).getD j 0 ∈ flv lvf k := by
    rw [List.getD_eq_getElem?_getD, List.getElem?_eq_getElem h]
    exact List.getElem_mem h
  have := (List.mem_filter.1 hm).1
  simpa using this

/-- The states laid down, in the blocks blk. -/
def Sta' (w : World) (blk : List Nat) (sb : Nat → Nat) (lvf : Nat → Bool) (k : Nat) : Prop :=
  ∀ i, i < k → sb i ∈ blk ∧ ((lvf i = false ∧ w.cell? ⟨sb i, 9, none⟩ = some (.pointer none)) ∨
    (lvf i = true ∧ ∃ q, q ∈ blk ∧ w.cell? ⟨sb i, 9, none⟩ = some (.pointer (some ⟨q, 0, none⟩)) ∧ w.cell? ⟨q, 1, none⟩ = some (.int .u64 ((i + 1 : Nat) : Int))))

structure BI (w : World) (B0 g h n ir k il : Nat) (sb : Nat → Nat) (blk : List Nat) (lvf : Nat → Bool) (lvv : Value) (wr : World) : Prop where
  sp : ∀ j, j < (h + n) * 5 → (wr.cell? ⟨g, j, none⟩).isSome = true ∧ wr.frozen? ⟨g, j, none⟩ = false
  lg : g < wr.heap.size
  run : ∀ t, t < ir → ∀ q, q < 5 → wr.cell? ⟨g, (h + t) * 5 + q, none⟩ = some (elem sb t q)
  sts : Sta' wr blk sb lvf k
  blkb : ∀ b, b ∈ blk → g < b ∧ b < wr.heap.size
  lv : PRow wr lvv (flv lvf il).length (fun j => .pointer (some ⟨sb ((flv lvf il).getD j 0), 0, none⟩))
  lvb : ∀ b, lvv.ownBlock = some b → g < b ∧ b < wr.heap.size ∧ b ∉ blk
  bel : Below B0 w wr
  hg : B0 ≤ g

theorem BI.keep {bs : List Nat} {w : World} {B0 g h n ir k il : Nat} {sb : Nat → Nat} {blk : List Nat} {lvf : Nat → Bool} {lvv : Value} {wr w' : World} (H : BI w B0 g h n ir k il sb blk lvf lvv wr) (hf : Fr bs wr w') (hb : ∀ b, b ∈ bs → B0 ≤ b ∧ b ≠ g ∧ b ∉ blk ∧ lvv.ownBlock ≠ some b) : BI w B0 g h n ir k il sb blk lvf lvv w' := by
  have hgn : g ∉ bs := fun e => (hb g e).2.1 rfl
  have eg : w'.heap[g]? = wr.heap[g]? := hf.block g H.lg hgn
  have hs := hf.size
  refine ⟨fun j hj => ⟨?_, ?_⟩, Nat.lt_of_lt_of_le H.lg hs, fun t ht q hq => hf.cell hgn (H.run t ht q hq), ?_, fun b hb' => ⟨(H.blkb b hb').1, Nat.lt_of_lt_of_le (H.blkb b hb').2 hs⟩,
    H.lv.keep hf (fun b hb' e => (hb b e).2.2.2 hb'), fun b hb' => ⟨(H.lvb b hb').1, Nat.lt_of_lt_of_le (H.lvb b hb').2.1 hs, (H.lvb b hb').2.2⟩, H.bel.trans (hf.under (fun b e => (hb b e).1) (by have := H.lg; have := H.hg; omega)), H.hg⟩
  · rw [World.cell?_of_block (a := ⟨g, j, none⟩) eg]; exact (H.sp j hj).1
  · rw [World.frozen?_of_block (a := ⟨g, j, none⟩) eg]; exact (H.sp j hj).2
  · intro i hi
    have no : ∀ x, x ∈ blk → x ∉ bs := fun x hx e => (hb x e).2.2.1 hx
    obtain ⟨h1, h2 | ⟨h2, q, h3, h4, h5⟩⟩ := H.sts i hi
    · exact ⟨h1, Or.inl ⟨h2.1, hf.cell (no _ h1) h2.2⟩⟩
    · exact ⟨h1, Or.inr ⟨h2, q, h3, hf.cell (no _ h1) h4, hf.cell (no _ h3) h5⟩⟩

/-- One state more. -/
theorem BI.state {w : World} {B0 g h n ir k il : Nat} {sb : Nat → Nat} {blk : List Nat} {lvf : Nat → Bool} {lvv : Value} {wr w' : World} (H : BI w B0 g h n ir k il sb blk lvf lvv wr) (hf : Fr [] wr w') (S : Nat) (hS : wr.heap.size ≤ S) (hS' : S < w'.heap.size) (hr : ir ≤ k) (hl : il ≤ k)
    (hx : (lvf k = false ∧ w'.cell? ⟨S, 9, none⟩ = some (.pointer none)) ∨ (lvf k = true ∧ ∃ q, wr.heap.size ≤ q ∧ q < w'.heap.size ∧ w'.cell? ⟨S, 9, none⟩ = some (.pointer (some ⟨q, 0, none⟩)) ∧ w'.cell? ⟨q, 1, none⟩ = some (.int .u64 ((k + 1 : Nat) : Int)))) :
    ∃ blk', BI w B0 g h n ir (k + 1) il (upd sb k S) blk' lvf lvv w' := by
  have H' := H.keep hf (by intro b hb; simp at hb)
  have key : ∀ blk' : List Nat, (∀ x, x ∈ blk → x ∈ blk') → (∀ x, x ∈ blk' → x ∈ blk ∨ (wr.heap.size ≤ x ∧ x < w'.heap.size)) → S ∈ blk' → ((lvf k = false ∧ w'.cell? ⟨S, 9, none⟩ = some (.pointer none)) ∨ (lvf k = true ∧ ∃ q, q ∈ blk' ∧ w'.cell? ⟨S, 9, none⟩ = some (.pointer (some ⟨q, 0, none⟩)) ∧ w'.cell? ⟨q, 1, none⟩ = some (.int .u64 ((k + 1 : Nat) : Int)))) →
      BI w B0 g h n ir (k + 1) il (upd sb k S) blk' lvf lvv w' := by
    intro blk' h1 h2 h3 h4
    refine ⟨H'.sp, H'.lg, fun t ht q hq => ?_, fun i hi => ?_, fun b hb => ?_, H'.lv.congr (fun j hj => ?_), fun b hb => ?_, H'.bel, H'.hg⟩
    · rw [elem_upd sb (by omega)]; exact H'.run t ht q hq
    · by_cases e : i = k
      · subst e
        rw [upd_same]
        exact ⟨h3, h4⟩
      · rw [upd_other sb e]
        obtain ⟨a1, a2 | ⟨a2, q, a3, a4, a5⟩⟩ := H'.sts i (by omega)
        · exact ⟨h1 _ a1, Or.inl a2⟩
        · exact ⟨h1 _ a1, Or.inr ⟨a2, q, h1 _ a3, a4, a5⟩⟩
    · rcases h2 b hb with h | h
      · exact H'.blkb b h
      · have := H.lg; exact ⟨by omega, h.2⟩
    · have := flv_lt hj
      rw [upd_other sb (by omega)]
    · obtain ⟨a1, a2, a3⟩ := H'.lvb b hb
      refine ⟨a1, a2, fun e => ?_⟩
      rcases h2 b e with h | h
      · exact a3 h
      · have := (H.lvb b hb).2.1; omega
  rcases hx with hx | ⟨hx, q, q1, q2, q3, q4⟩
  · exact ⟨S :: blk, key _ (fun x hx => by simp [hx]) (fun x hx => by
      rcases List.mem_cons.1 hx with h | h
      · exact Or.inr (by omega)
      · exact Or.inl h) (by simp) (Or.inl hx)⟩
  · exact ⟨S :: q :: blk, key _ (fun x hx => by simp [hx]) (fun x hx => by
      rcases List.mem_cons.1 hx with h | h
      · exact Or.inr (by omega)
      · rcases List.mem_cons.1 h with h | h
        · exact Or.inr (by omega)
        · exact Or.inl h) (by simp) (Or.inr ⟨hx, q, by simp, q3, q4⟩)⟩

/-- No live one more. -/
theorem BI.lvskip {w : World} {B0 g h n ir k il : Nat} {sb : Nat → Nat} {blk : List Nat} {lvf : Nat → Bool} {lvv : Value} {wr : World} (H : BI w B0 g h n ir k il sb blk lvf lvv wr) (hl : lvf il = false) : BI w B0 g h n ir k (il + 1) sb blk lvf lvv wr :=
  ⟨H.sp, H.lg, H.run, H.sts, H.blkb, by rw [flv_no hl]; exact H.lv, H.lvb, H.bel, H.hg⟩

/-- One live one more: its pointer appended. -/
theorem BI.lvnext {w : World} {B0 g h n ir k il : Nat} {sb : Nat → Nat} {blk : List Nat} {lvf : Nat → Bool} {lvv v' : Value} {wr w' : World} (H : BI w B0 g h n ir k il sb blk lvf lvv wr) (hl : lvf il = true) (hf : Fr lvv.ownBlock.toList wr w')
    (hrow : PRow w' v' ((flv lvf il).length + 1) (fun j => if j < (flv lvf il).length then .pointer (some ⟨sb ((flv lvf il).getD j 0), 0, none⟩) else .pointer (some ⟨sb il, 0, none⟩))) (hnew : ∀ b, v'.ownBlock = some b → lvv.ownBlock = some b ∨ wr.heap.size ≤ b) : BI w B0 g h n ir k (il + 1) sb blk lvf v' w' := by
  have hbs : ∀ b, b ∈ lvv.ownBlock.toList → g < b ∧ b < wr.heap.size ∧ b ∉ blk := fun b hb => H.lvb b (Option.mem_toList.1 hb)
  have hgn : g ∉ lvv.ownBlock.toList := fun e => by have := (hbs g e).1; omega
  have eg : w'.heap[g]? = wr.heap[g]? := hf.block g H.lg hgn
  have hs := hf.size
  have no : ∀ x, x ∈ blk → x ∉ lvv.ownBlock.toList := fun x hx e => (hbs x e).2.2 hx
  refine ⟨fun j hj => ⟨?_, ?_⟩, Nat.lt_of_lt_of_le H.lg hs, fun t ht q hq => hf.cell hgn (H.run t ht q hq), ?_, fun b hb' => ⟨(H.blkb b hb').1, Nat.lt_of_lt_of_le (H.blkb b hb').2 hs⟩, ?_, ?_, H.bel.trans (hf.under (fun b e => by have := (hbs b e).1; have := H.hg; omega) (by have := H.lg; have := H.hg; omega)), H.hg⟩
  · rw [World.cell?_of_block (a := ⟨g, j, none⟩) eg]; exact (H.sp j hj).1
  · rw [World.frozen?_of_block (a := ⟨g, j, none⟩) eg]; exact (H.sp j hj).2
  · intro i hi
    obtain ⟨h1, h2 | ⟨h2, q, h3, h4, h5⟩⟩ := H.sts i hi
    · exact ⟨h1, Or.inl ⟨h2.1, hf.cell (no _ h1) h2.2⟩⟩
    · exact ⟨h1, Or.inr ⟨h2, q, h3, hf.cell (no _ h1) h4, hf.cell (no _ h3) h5⟩⟩
  · rw [flv_yes hl, List.length_append]
    refine hrow.congr (fun j hj => ?_)
    by_cases e : j < (flv lvf il).length
    · rw [if_pos e, List.getD_eq_getElem?_getD, List.getD_eq_getElem?_getD, List.getElem?_append_left e]
    · rw [if_neg e]
      have hj2 : j = (flv lvf il).length := by omega
      subst hj2
      simp [List.getD_eq_getElem?_getD]
  · intro b hb
    rcases hnew b hb with h | h
    · obtain ⟨a1, a2, a3⟩ := H.lvb b h
      exact ⟨a1, Nat.lt_of_lt_of_le a2 hs, a3⟩
    · refine ⟨by have := H.lg; omega, ?_, fun e => by have := (H.blkb b e).2; omega⟩
      rcases hrow with ⟨rfl, _⟩ | ⟨b', cap, rfl, hl', _⟩
      · cases hb
      · have e : b' = b := Option.some.inj hb
        omega

/-- One wait more in the run. -/
theorem BI.runnext {w : World} {B0 g h n ir k il : Nat} {sb : Nat → Nat} {blk : List Nat} {lvf : Nat → Bool} {lvv : Value} {wr : World} (H : BI w B0 g h n ir k il sb blk lvf lvv wr) (hr : ir < n) : BI w B0 g h n (ir + 1) k il sb blk lvf lvv (wr.setCells g ((h + ir) * 5) [elem sb ir 0, elem sb ir 1, elem sb ir 2, elem sb ir 3, elem sb ir 4]) := by
  obtain ⟨w', hw'⟩ : ∃ w', w' = wr.setCells g ((h + ir) * 5) [elem sb ir 0, elem sb ir 1, elem sb ir 2, elem sb ir 3, elem sb ir 4] := ⟨_, rfl⟩
  rw [← hw']
  have f : Fr [g] wr w' := by rw [hw']; exact Fr.grown (grown_setCells g _ _ wr) (by simp)
  have hs := f.size
  have no : ∀ x, x ∈ blk → x ∉ [g] := fun x hx e => by have := (H.blkb x hx).1; simp at e; omega
  have hin := World.cell?_setCells_in g [elem sb ir 0, elem sb ir 1, elem sb ir 2, elem sb ir 3, elem sb ir 4] ((h + ir) * 5) wr (by
    intro j hj
    simp at hj
    exact (H.sp ((h + ir) * 5 + j) (by omega)).1)
  rw [← hw'] at hin
  refine ⟨by rw [hw']; exact sp_setCells H.sp _ _, Nat.lt_of_lt_of_le H.lg hs, fun t ht q hq => ?_, ?_, fun b hb' => ⟨(H.blkb b hb').1, Nat.lt_of_lt_of_le (H.blkb b hb').2 hs⟩, H.lv.keep f (fun b hb e => by have := (H.lvb b hb).1; simp at e; omega),
    fun b hb' => ⟨(H.lvb b hb').1, Nat.lt_of_lt_of_le (H.lvb b hb').2.1 hs, (H.lvb b hb').2.2⟩, H.bel.trans (f.under (fun b e => by simp at e; have := H.hg; omega) (by have := H.lg; have := H.hg; omega)), H.hg⟩
  · by_cases e : t = ir
    · subst e
      have := hin q (by simpa using hq)
      rw [this]
      match q, hq with
      | 0, _ => rfl
      | 1, _ => rfl
      | 2, _ => rfl
      | 3, _ => rfl
      | 4, _ => rfl
    · rw [hw', World.cell?_setCells_out g _ _ _ _ (by intro _ _; left; simp; omega)]
      exact H.run t (by omega) q hq
  · intro i hi
    obtain ⟨h1, h2 | ⟨h2, q, h3, h4, h5⟩⟩ := H.sts i hi
    · exact ⟨h1, Or.inl ⟨h2.1, f.cell (no _ h1) h2.2⟩⟩
    · exact ⟨h1, Or.inr ⟨h2, q, h3, f.cell (no _ h1) h4, f.cell (no _ h3) h5⟩⟩

/-- The states, for the walks behind. -/
theorem BI.toSts {w : World} {B0 g h n ir k il : Nat} {sb : Nat → Nat} {blk : List Nat} {lvf : Nat → Bool} {lvv : Value} {wr : World} (H : BI w B0 g h n ir k il sb blk lvf lvv wr) (A : Nat) (hA : wr.heap.size ≤ A) : Sts wr g A sb lvf k := by
  intro i hi
  obtain ⟨h1, h2 | ⟨h2, q, h3, h4, h5⟩⟩ := H.sts i hi
  · exact ⟨(H.blkb _ h1).1, by have := (H.blkb _ h1).2; omega, Or.inl h2⟩
  · exact ⟨(H.blkb _ h1).1, by have := (H.blkb _ h1).2; omega, Or.inr ⟨h2, q, (H.blkb _ h3).1, by have := (H.blkb _ h3).2; omega, h4, h5⟩⟩

end Go.Proofs.Ybulkaixu.Cnt
