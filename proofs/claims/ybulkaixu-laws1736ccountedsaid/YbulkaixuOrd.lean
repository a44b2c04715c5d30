/-
  A waitOrder in memory: its run, head, ended; what the writes of dropEnded and rebuild make of it.
-/
import Derived.Test.YbulkaixuLive
namespace Go.Proofs.Ybulkaixu.Cnt
open Go.RowKit
set_option linter.unusedVariables false
set_option linter.unusedSimpArgs false
set_option maxRecDepth 100000

/-- Cell q of the wait of item i. -/
def elem (sb : Nat → Nat) (i q : Nat) : Value :=
  match q with
  | 0 => .int .u64 0
  | 1 => .int .i64 0
  | 2 => .pointer none
  | 3 => .int .u64 ((i + 1 : Nat) : Int)
  | _ => .pointer (some ⟨sb i, 0, none⟩)

theorem elem_one (sb : Nat → Nat) (i q : Nat) : (elem sb i q).oneCell' = true := by
  unfold elem
  split <;> rfl

/-- The waitOrder at block A: its run lies at block g. -/
structure Ord (w : World) (A g head cap : Nat) (its : List Nat) (sb : Nat → Nat) (e : Nat) : Prop where
  r0 : w.cell? ⟨A, 0, none⟩ = some (.slice (some ⟨g, 0, none⟩) (head + its.length) cap)
  r1 : w.cell? ⟨A, 1, none⟩ = some (.int .i64 (head : Nat))
  r2 : w.cell? ⟨A, 2, none⟩ = some (.slice none 0 0)
  r3 : w.cell? ⟨A, 3, none⟩ = some (.int .i64 (e : Nat))
  f0 : w.frozen? ⟨A, 0, none⟩ = false
  f1 : w.frozen? ⟨A, 1, none⟩ = false
  f2 : w.frozen? ⟨A, 2, none⟩ = false
  f3 : w.frozen? ⟨A, 3, none⟩ = false
  le : head + its.length ≤ cap
  capm : cap ≤ 3000
  lg : g < w.heap.size
  gA : g < A
  sp : ∀ j, j < cap * 5 → (w.cell? ⟨g, j, none⟩).isSome = true ∧ w.frozen? ⟨g, j, none⟩ = false
  it : ∀ t i, its[t]? = some i → ∀ q, q < 5 → w.cell? ⟨g, (head + t) * 5 + q, none⟩ = some (elem sb i q)

theorem Ord.keep {bs : List Nat} {w w' : World} {A g head cap : Nat} {its : List Nat} {sb : Nat → Nat} {e : Nat} (h : Ord w A g head cap its sb e) (hf : Fr bs w w') (hA : A ∉ bs) (hg : g ∉ bs) : Ord w' A g head cap its sb e := by
  have hl := block_lt_of_cell h.r0
  have eg : w'.heap[g]? = w.heap[g]? := hf.block g h.lg hg
  exact ⟨hf.cell hA h.r0, hf.cell hA h.r1, hf.cell hA h.r2, hf.cell hA h.r3, (hf.frozen hA hl).trans h.f0, (hf.frozen hA hl).trans h.f1, (hf.frozen hA hl).trans h.f2, (hf.frozen hA hl).trans h.f3, h.le, h.capm, Nat.lt_of_lt_of_le h.lg hf.size, h.gA,
    fun j hj => ⟨by rw [World.cell?_of_block (a := ⟨g, j, none⟩) eg]; exact (h.sp j hj).1, by rw [World.frozen?_of_block (a := ⟨g, j, none⟩) eg]; exact (h.sp j hj).2⟩,
    fun t i ht q hq => hf.cell hg (h.it t i ht q hq)⟩

/-- Writes to the run and to the order's own cells. -/
theorem Ord.writes {w w1 w' : World} {A g head cap : Nat} {its : List Nat} {sb : Nat → Nat} {e : Nat} (h : Ord w A g head cap its sb e) (f : Fr [g] w w1) (hsp : ∀ j, j < cap * 5 → (w1.cell? ⟨g, j, none⟩).isSome = true ∧ w1.frozen? ⟨g, j, none⟩ = false)
    (head' e' : Nat) (its' : List Nat) (hle : head' + its'.length ≤ cap) (hit : ∀ t i, its'[t]? = some i → ∀ q, q < 5 → w1.cell? ⟨g, (head' + t) * 5 + q, none⟩ = some (elem sb i q))
    (f2 : Fr [A] w1 w') (c0 : w'.cell? ⟨A, 0, none⟩ = some (.slice (some ⟨g, 0, none⟩) (head' + its'.length) cap)) (c1 : w'.cell? ⟨A, 1, none⟩ = some (.int .i64 (head' : Nat))) (c2 : w'.cell? ⟨A, 2, none⟩ = some (.slice none 0 0)) (c3 : w'.cell? ⟨A, 3, none⟩ = some (.int .i64 (e' : Nat)))
    (hz : ∀ o, w'.frozen? ⟨A, o, none⟩ = w1.frozen? ⟨A, o, none⟩) : Ord w' A g head' cap its' sb e' := by
  have hl := block_lt_of_cell h.r0
  have hAg : A ∉ [g] := by have := h.gA; simp; omega
  have hgA : g ∉ [A] := by have := h.gA; simp; omega
  have l1 : g < w1.heap.size := Nat.lt_of_lt_of_le h.lg f.size
  have eg : w'.heap[g]? = w1.heap[g]? := f2.block g l1 hgA
  exact ⟨c0, c1, c2, c3, (hz 0).trans ((f.frozen hAg hl).trans h.f0), (hz 1).trans ((f.frozen hAg hl).trans h.f1), (hz 2).trans ((f.frozen hAg hl).trans h.f2), (hz 3).trans ((f.frozen hAg hl).trans h.f3), hle, h.capm, Nat.lt_of_lt_of_le l1 f2.size, h.gA,
    fun j hj => ⟨by rw [World.cell?_of_block (a := ⟨g, j, none⟩) eg]; exact (hsp j hj).1, by rw [World.frozen?_of_block (a := ⟨g, j, none⟩) eg]; exact (hsp j hj).2⟩,
    fun t i ht q hq => f2.cell hgA (hit t i ht q hq)⟩

theorem sp_setCells {w : World} {g cap : Nat} (h : ∀ j, j < cap * 5 → (w.cell? ⟨g, j, none⟩).isSome = true ∧ w.frozen? ⟨g, j, none⟩ = false) (o : Nat) (zs : List Value) : ∀ j, j < cap * 5 → ((w.setCells g o zs).cell? ⟨g, j, none⟩).isSome = true ∧ (w.setCells g o zs).frozen? ⟨g, j, none⟩ = false :=
  fun j hj => ⟨World.isSome_setCells g _ _ _ _ (h j hj).1, by rw [World.frozen?_setCells]; exact (h j hj).2⟩

/-- The first wait overwritten and left behind. -/
theorem Ord.next {w : World} {A g head cap i : Nat} {its : List Nat} {sb : Nat → Nat} {e : Nat} (h : Ord w A g head cap (i :: its) sb (e + 1)) (zs : List Value) (hz : zs.length = 5) :
    Ord (((w.setCells g (head * 5) zs).setCell ⟨A, 1, none⟩ (.int .i64 ((head + 1 : Nat) : Int))).setCell ⟨A, 3, none⟩ (.int .i64 (e : Nat))) A g (head + 1) cap its sb e := by
  have hgA := h.gA
  have hle := h.le
  have f : Fr [g] w (w.setCells g (head * 5) zs) := Fr.grown (grown_setCells g _ _ w) (by simp)
  have d0 := f.cell (b := A) (by simp; omega) h.r0
  have d1 := f.cell (b := A) (by simp; omega) h.r1
  have d2 := f.cell (b := A) (by simp; omega) h.r2
  have d3 := f.cell (b := A) (by simp; omega) h.r3
  refine h.writes f (sp_setCells h.sp _ _) (head + 1) e its (by simp at hle; omega) ?_ ((Fr.set _ (by simp) _).trans (Fr.set _ (by simp) _)) ?_ ?_ ?_ ?_ (fun o => by simp)
  · intro t j ht q hq
    rw [World.cell?_setCells_out g _ _ _ _ (by intro _ _; right; simp; omega), show (head + 1 + t) * 5 + q = (head + (t + 1)) * 5 + q by omega]
    exact h.it (t + 1) j (by simpa using ht) q hq
  · rw [cset_ne _ _ _ _ _ _ (by omega), cset_ne _ _ _ _ _ _ (by omega), d0]
    simp
    omega
  · rw [cset_ne _ _ _ _ _ _ (by omega)]
    exact World.cell?_setCell_same _ _ _ d1
  · rw [cset_ne _ _ _ _ _ _ (by omega), cset_ne _ _ _ _ _ _ (by omega)]
    exact d2
  · exact World.cell?_setCell_same _ _ _ ((cset_ne _ _ _ _ _ _ (by omega)).trans d3)

/-- The cells of the waits its. -/
def cellsOf (sb : Nat → Nat) (its : List Nat) : List Value := List.ofFn (fun t : Fin (its.length * 5) => elem sb (its.getD (t.val / 5) 0) (t.val % 5))

theorem cellsOf_len (sb : Nat → Nat) (its : List Nat) : (cellsOf sb its).length = its.length * 5 := by simp [cellsOf]
theorem cellsOf_one (sb : Nat → Nat) (its : List Nat) : ∀ v ∈ cellsOf sb its, v.oneCell' = true := by
  intro v hv
  obtain ⟨t, ht⟩ := List.mem_ofFn.1 hv
  rw [← ht]
  exact elem_one _ _ _
theorem cellsOf_at (sb : Nat → Nat) (its : List Nat) (t i q : Nat) (ht : its[t]? = some i) (hq : q < 5) : (cellsOf sb its)[t * 5 + q]? = some (elem sb i q) := by
  have hl := (List.getElem?_eq_some_iff.1 ht).1
  unfold cellsOf
  rw [List.getElem?_ofFn, dif_pos (by omega)]
  dsimp only
  rw [show (t * 5 + q) / 5 = t by omega, show (t * 5 + q) % 5 = q by omega, List.getD, ht]
  rfl
theorem Ord.cells {w : World} {A g head cap : Nat} {its : List Nat} {sb : Nat → Nat} {e : Nat} (h : Ord w A g head cap its sb e) : ∀ j v, (cellsOf sb its)[j]? = some v → w.cell? ⟨g, head * 5 + j, none⟩ = some v := by
  intro j v hv
  have hj : j < its.length * 5 := by
    have := (List.getElem?_eq_some_iff.1 hv).1
    rwa [cellsOf_len] at this
  have hl : j / 5 < its.length := by omega
  have ht : its[j / 5]? = some its[j / 5] := List.getElem?_eq_getElem hl
  have h1 := cellsOf_at sb its (j / 5) _ (j % 5) ht (by omega)
  rw [show j / 5 * 5 + j % 5 = j by omega, hv] at h1
  have h2 := h.it (j / 5) _ ht (j % 5) (by omega)
  rw [show (head + j / 5) * 5 + j % 5 = head * 5 + j by omega] at h2
  rw [h2]
  exact h1.symm

/-- The waits moved to the front, the rest cleared. -/
theorem Ord.compact {w : World} {A g head cap : Nat} {its : List Nat} {sb : Nat → Nat} {e : Nat} (h : Ord w A g head cap its sb e) (zs : List Value) :
    Ord ((((w.setCells g 0 (cellsOf sb its)).setCells g (its.length * 5) zs).setCell ⟨A, 0, none⟩ (.slice (some ⟨g, 0, none⟩) its.length cap)).setCell ⟨A, 1, none⟩ (.int .i64 0)) A g 0 cap its sb e := by
  have hgA := h.gA
  have hle := h.le
  have f : Fr [g] w ((w.setCells g 0 (cellsOf sb its)).setCells g (its.length * 5) zs) := (Fr.grown (grown_setCells g _ _ w) (by simp)).trans (Fr.grown (grown_setCells g _ _ _) (by simp))
  have d0 := f.cell (b := A) (by simp; omega) h.r0
  have d1 := f.cell (b := A) (by simp; omega) h.r1
  have d2 := f.cell (b := A) (by simp; omega) h.r2
  have d3 := f.cell (b := A) (by simp; omega) h.r3
  refine h.writes f (sp_setCells (sp_setCells h.sp _ _) _ _) 0 e its (by omega) ?_ ((Fr.set _ (by simp) _).trans (Fr.set _ (by simp) _)) ?_ ?_ ?_ ?_ (fun o => by simp)
  · intro t j ht q hq
    have hl := (List.getElem?_eq_some_iff.1 ht).1
    rw [World.cell?_setCells_out g _ _ _ _ (by intro _ _; left; simp; omega)]
    have hin := World.cell?_setCells_in g (cellsOf sb its) 0 w (by
      intro j hj
      rw [cellsOf_len] at hj
      rw [Nat.zero_add]
      exact (h.sp j (by omega)).1) (t * 5 + q) (by rw [cellsOf_len]; omega)
    rw [show (0 + t) * 5 + q = 0 + (t * 5 + q) by omega, hin]
    have := cellsOf_at sb its t j q ht hq
    rw [List.getElem?_eq_getElem (by rw [cellsOf_len]; omega)] at this
    exact this
  · rw [cset_ne _ _ _ _ _ _ (by omega), Nat.zero_add]
    exact World.cell?_setCell_same _ _ _ d0
  · exact World.cell?_setCell_same _ _ _ ((cset_ne _ _ _ _ _ _ (by omega)).trans d1)
  · rw [cset_ne _ _ _ _ _ _ (by omega), cset_ne _ _ _ _ _ _ (by omega)]
    exact d2
  · rw [cset_ne _ _ _ _ _ _ (by omega), cset_ne _ _ _ _ _ _ (by omega)]
    exact d3

/-- The states of the n items, in blocks between lo and hi. -/
def Sts (w : World) (lo hi : Nat) (sb : Nat → Nat) (lvf : Nat → Bool) (n : Nat) : Prop :=
  ∀ i, i < n → lo < sb i ∧ sb i < hi ∧ ((lvf i = false ∧ w.cell? ⟨sb i, 9, none⟩ = some (.pointer none)) ∨
    (lvf i = true ∧ ∃ q, lo < q ∧ q < hi ∧ w.cell? ⟨sb i, 9, none⟩ = some (.pointer (some ⟨q, 0, none⟩)) ∧ w.cell? ⟨q, 1, none⟩ = some (.int .u64 ((i + 1 : Nat) : Int))))

theorem Sts.sta {w : World} {lo hi : Nat} {sb : Nat → Nat} {lvf : Nat → Bool} {n i : Nat} (h : Sts w lo hi sb lvf n) (hi' : i < n) : Sta w (sb i) ((i + 1 : Nat) : Int) (lvf i) := by
  obtain ⟨_, _, h | ⟨h1, q, _, _, h2, h3⟩⟩ := h i hi'
  · exact Or.inl h
  · exact Or.inr ⟨h1, q, h2, h3⟩

theorem Sts.keep {bs : List Nat} {w w' : World} {lo hi : Nat} {sb : Nat → Nat} {lvf : Nat → Bool} {n : Nat} (h : Sts w lo hi sb lvf n) (hf : Fr bs w w') (hb : ∀ b, b ∈ bs → b ≤ lo ∨ hi ≤ b) : Sts w' lo hi sb lvf n := by
  intro i hi'
  have no : ∀ x, lo < x → x < hi → x ∉ bs := fun x h1 h2 hx => by rcases hb x hx with h | h <;> omega
  obtain ⟨h1, h2, h | ⟨h3, q, h4, h5, h6, h7⟩⟩ := h i hi'
  · exact ⟨h1, h2, Or.inl ⟨h.1, hf.cell (no _ h1 h2) h.2⟩⟩
  · exact ⟨h1, h2, Or.inr ⟨h3, q, h4, h5, hf.cell (no _ h1 h2) h6, hf.cell (no _ h4 h5) h7⟩⟩

end Go.Proofs.Ybulkaixu.Cnt
