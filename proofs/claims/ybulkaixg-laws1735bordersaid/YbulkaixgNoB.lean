/-
  newOrder: the memory of an order under way; the held; counting.
-/
import Derived.Test.YbulkaixgNoA
import Derived.Laws.Rows
namespace Go.Proofs.Ybulkaixg.Ord
open Go.RowKit
set_option linter.unusedVariables false
set_option linter.unusedSimpArgs false
set_option maxRecDepth 100000

/-- How many below n have p. -/
def cnt (p : Nat → Prop) [DecidablePred p] : Nat → Nat
  | 0 => 0
  | n + 1 => cnt p n + if p n then 1 else 0

theorem cnt_eq_countP (p : Nat → Prop) [DecidablePred p] (n : Nat) : cnt p n = (List.range n).countP (fun i => decide (p i)) := by
  induction n with
  | zero => rfl
  | succ n ih =>
    rw [cnt, ih, List.range_succ, List.countP_append]
    by_cases h : p n <;> simp [h]

/-- Counted along a permutation. -/
theorem cnt_perm (p : Nat → Prop) [DecidablePred p] (τ : Nat → Nat) (m : Nat) (hl : ∀ i, i < m → τ i < m) (hi : ∀ i j, i < m → j < m → τ i = τ j → i = j) (hs : ∀ k, k < m → ∃ i, i < m ∧ τ i = k) : cnt p m = cnt (fun i => p (τ i)) m := by
  rw [cnt_eq_countP, cnt_eq_countP]
  have hnd : ((List.range m).map τ).Nodup := by
    unfold List.Nodup
    rw [List.pairwise_map]
    refine List.Pairwise.imp_of_mem ?_ (List.pairwise_lt_range (n := m))
    intro a b ha hb hab e
    have := hi a b (List.mem_range.1 ha) (List.mem_range.1 hb) e
    omega
  have hp : ((List.range m).map τ).Perm (List.range m) := by
    refine (List.perm_ext_iff_of_nodup hnd List.nodup_range).2 fun x => ?_
    simp only [List.mem_map, List.mem_range]
    constructor
    · rintro ⟨a, ha, rfl⟩; exact hl a ha
    · intro hx; obtain ⟨i, h1, h2⟩ := hs x hx; exact ⟨i, h1, h2⟩
  rw [← hp.countP_eq, List.countP_map]
  rfl

theorem cnt_congr (p q : Nat → Prop) [DecidablePred p] [DecidablePred q] (n : Nat) (h : ∀ i, i < n → (p i ↔ q i)) : cnt p n = cnt q n := by
  induction n with
  | zero => rfl
  | succ n ih =>
    rw [cnt, cnt, ih (fun i hi => h i (by omega))]
    have := h n (by omega)
    by_cases hp : p n
    · rw [if_pos hp, if_pos (this.1 hp)]
    · rw [if_neg hp, if_neg (fun hq => hp (this.2 hq))]

theorem cnt_le (p : Nat → Prop) [DecidablePred p] (n : Nat) : cnt p n ≤ n := by
  induction n with
  | zero => exact Nat.le_refl _
  | succ n ih => rw [cnt]; split <;> omega

/-- Counted in the j-th block. -/
theorem cnt_block (q : Nat → Prop) [DecidablePred q] (j : Nat) : ∀ n, cnt (fun i => i / 256 = j ∧ q i) n = cnt (fun k => q (j * 256 + k)) (min (j * 256 + 256) n - j * 256) := by
  intro n
  induction n with
  | zero => rw [show min (j * 256 + 256) 0 - j * 256 = 0 by omega]; rfl
  | succ n ih =>
    rw [cnt, ih]
    by_cases h : n / 256 = j
    · have e : min (j * 256 + 256) (n + 1) - j * 256 = (min (j * 256 + 256) n - j * 256) + 1 := by omega
      have e2 : j * 256 + (min (j * 256 + 256) n - j * 256) = n := by omega
      rw [e, cnt, e2]
      simp [h]
    · have e : min (j * 256 + 256) (n + 1) - j * 256 = min (j * 256 + 256) n - j * 256 := by omega
      rw [e]
      simp [h]

/-- The inverse of a row of places. -/
theorem inverse (τ : Nat → Nat) (m : Nat) (hl : ∀ i, i < m → τ i < m) (hi : ∀ i j, i < m → j < m → τ i = τ j → i = j) (hs : ∀ k, k < m → ∃ i, i < m ∧ τ i = k) :
    ∃ pos : Nat → Nat, (∀ i, i < m → pos (τ i) = i) ∧ (∀ k, k < m → pos k < m ∧ τ (pos k) = k) := by
  refine ⟨fun k => if h : k < m then Classical.choose (hs k h) else 0, ?_, ?_⟩
  · intro i h
    have hk := hl i h
    simp only [hk, dif_pos]
    have := Classical.choose_spec (hs (τ i) hk)
    exact hi _ _ this.1 h this.2
  · intro k h
    simp only [h, dif_pos]
    exact Classical.choose_spec (hs k h)

/-- A held's cells below 18. -/
def hcell (k : ByteArray) (t s : Int) : Nat → Value
  | 0 => .string k
  | 1 => .int .u64 0
  | 2 => .string ⟨#[]⟩
  | 3 => .int .u64 0
  | 4 => .string ⟨#[]⟩
  | 5 => .bool false
  | 6 => .slice none 0 0
  | 7 => .bool false
  | 8 => .int .i64 t
  | 9 => .slice none 0 0
  | 10 => .int .u64 0
  | 11 => .string ⟨#[]⟩
  | 12 => .int .u64 0
  | 13 => .string ⟨#[]⟩
  | 14 => .bool false
  | 15 => .slice none 0 0
  | 16 => .int .i64 0
  | _ => .int .u64 s

/-- A block of plain cells: its address can be compared. -/
def Pl (w : World) (b : Nat) : Prop := ∃ ca ta, w.heap[b]? = some (.cells ca ta (0, 0))

structure HB (w : World) (b : Nat) (k : ByteArray) (t s : Int) : Prop where
  pl : Pl w b
  c : ∀ o, o < 18 → w.cell? ⟨b, o, none⟩ = some (hcell k t s o)
  inn : ∃ v, w.cell? ⟨b, 18, none⟩ = some v
  fz : ∀ o, w.frozen? ⟨b, o, none⟩ = false

variable {w w' : World} {b : Nat} {k : ByteArray} {t s : Int} {P : Nat → Prop}
theorem HB.lt (h : HB w b k t s) : b < w.heap.size := block_lt_of_cell (h.c 0 (by omega))
theorem Pl.lt {b : Nat} (h : Pl w b) : b < w.heap.size := by
  obtain ⟨ca, ta, h⟩ := h
  exact (Array.getElem?_eq_some_iff.1 h).1
theorem Pl.keep {b : Nat} (h : Pl w b) (hk : Kp P w w') (hb : ¬ P b) : Pl w' b := by
  have hl := h.lt
  obtain ⟨ca, ta, h⟩ := h
  exact ⟨ca, ta, (hk.block b hl hb).trans h⟩
theorem Pl.set {b : Nat} (h : Pl w b) (x o : Nat) (v : Value) : Pl (w.setCell ⟨x, o, none⟩ v) b := by
  obtain ⟨ca, ta, h⟩ := h
  by_cases e : b = x
  · subst e; exact ⟨_, ta, heap_setCell_same w b o ca ta v h⟩
  · exact ⟨ca, ta, (heap_setCell_other w ⟨x, o, none⟩ b v e).trans h⟩
theorem HB.keep (h : HB w b k t s) (hk : Kp P w w') (hb : ¬ P b) : HB w' b k t s :=
  ⟨h.pl.keep hk hb, fun o ho => hk.cell hb (h.c o ho), (by obtain ⟨v, hv⟩ := h.inn; exact ⟨v, hk.cell hb hv⟩), fun o => (hk.frozen h.lt hb).trans (h.fz o)⟩
theorem HB.set (h : HB w b k t s) (x : Nat) (v : Value) : HB (w.setCell ⟨x, 18, none⟩ v) b k t s := by
  refine ⟨h.pl.set _ _ _, fun o ho => by rw [cset_ne _ _ _ _ _ _ (by omega)]; exact h.c o ho, ?_, fun o => by simpa using h.fz o⟩
  obtain ⟨u, hu⟩ := h.inn
  by_cases e : b = x
  · subst e; exact ⟨v, cset_eq _ _ _ _ _ hu⟩
  · exact ⟨u, by rw [cset_ne _ _ _ _ _ _ (by omega)]; exact hu⟩

/-- The memory of an order: its rows of held and of sums, its blocks. -/
structure Ob (w : World) (rb xb yb zb ob pb m NB : Nat) (xv yv : Nat → Value) (tm : Nat → Nat) : Prop where
  o1 : rb < xb
  o2 : xb < yb
  o3 : yb < zb
  o4 : zb < ob
  o5 : ob < pb
  top : pb + NB ≤ w.heap.size
  res : ∃ v, w.cell? ⟨rb, 0, none⟩ = some v
  x : ∀ i, i < m → w.cell? ⟨xb, i, none⟩ = some (xv i)
  y : ∀ i, i < m → w.cell? ⟨yb, i, none⟩ = some (yv i)
  z : ∀ j, j < NB → w.cell? ⟨zb, j, none⟩ = some (.pointer (some ⟨pb + j, 0, none⟩))
  o : w.cell? ⟨ob, 0, none⟩ = some (.slice (some ⟨zb, 0, none⟩) NB NB)
  b0 : ∀ j, j < NB → w.cell? ⟨pb + j, 0, none⟩ = some (.slice (some ⟨xb, j * 256, none⟩) (blen m j) (blen m j))
  b1 : ∀ j, j < NB → w.cell? ⟨pb + j, 1, none⟩ = some (.slice (some ⟨yb, j * 256, none⟩) (blen m j) (blen m j))
  b2 : ∀ j, j < NB → w.cell? ⟨pb + j, 2, none⟩ = some (.int .i64 (tm j : Int))
  fz : ∀ b o, rb ≤ b → b < pb + NB → w.frozen? ⟨b, o, none⟩ = false

variable {w0 : World} {rb xb yb zb ob pb m NB : Nat} {xv yv : Nat → Value} {tm : Nat → Nat}
theorem L1.toOb (h : L1 w0 w rb xb yb zb ob pb m NB NB) : Ob w rb xb yb zb ob pb m NB (fun _ => .pointer none) (fun _ => .int .u64 0) (fun _ => 0) :=
  ⟨h.o1, h.o2, h.o3, h.o4, h.o5, Nat.le_of_eq h.size.symm, h.res, h.x, h.y, h.z0, h.o, h.b0, h.b1, h.b2, h.fz⟩

theorem Ob.keep (h : Ob w rb xb yb zb ob pb m NB xv yv tm) (hk : Kp P w w') (hn : ∀ b, rb ≤ b → b < pb + NB → ¬ P b) : Ob w' rb xb yb zb ob pb m NB xv yv tm := by
  have o1 := h.o1; have o2 := h.o2; have o3 := h.o3; have o4 := h.o4; have o5 := h.o5; have top := h.top
  refine ⟨o1, o2, o3, o4, o5, Nat.le_trans top hk.size, ?_, ?_, ?_, ?_, ?_, ?_, ?_, ?_, ?_⟩
  · obtain ⟨v, hv⟩ := h.res
    exact ⟨v, hk.cell (hn _ (by omega) (by omega)) hv⟩
  · intro i hi; exact hk.cell (hn _ (by omega) (by omega)) (h.x i hi)
  · intro i hi; exact hk.cell (hn _ (by omega) (by omega)) (h.y i hi)
  · intro i hi; exact hk.cell (hn _ (by omega) (by omega)) (h.z i hi)
  · exact hk.cell (hn _ (by omega) (by omega)) h.o
  · intro i hi; exact hk.cell (hn _ (by omega) (by omega)) (h.b0 i hi)
  · intro i hi; exact hk.cell (hn _ (by omega) (by omega)) (h.b1 i hi)
  · intro i hi; exact hk.cell (hn _ (by omega) (by omega)) (h.b2 i hi)
  · intro b o h1 h2; exact (hk.frozen (by omega) (hn _ h1 h2)).trans (h.fz b o h1 h2)

def updV (f : Nat → Value) (i : Nat) (v : Value) : Nat → Value := fun t => if t = i then v else f t
theorem updV_same (f : Nat → Value) (i : Nat) (v : Value) : updV f i v i = v := if_pos rfl
theorem updV_ne (f : Nat → Value) {i t : Nat} {v : Value} (h : t ≠ i) : updV f i v t = f t := if_neg h

theorem Ob.setX (h : Ob w rb xb yb zb ob pb m NB xv yv tm) {i : Nat} (hi : i < m) (v : Value) : Ob (w.setCell ⟨xb, i, none⟩ v) rb xb yb zb ob pb m NB (updV xv i v) yv tm := by
  have o1 := h.o1; have o2 := h.o2; have o3 := h.o3; have o4 := h.o4; have o5 := h.o5; have top := h.top
  have old : ∀ b k, ¬ (b = xb ∧ k = i) → (w.setCell ⟨xb, i, none⟩ v).cell? ⟨b, k, none⟩ = w.cell? ⟨b, k, none⟩ := fun b k hn => cset_ne _ _ _ _ _ _ hn
  refine ⟨o1, o2, o3, o4, o5, by simpa using top, ?_, ?_, ?_, ?_, ?_, ?_, ?_, ?_, ?_⟩
  · obtain ⟨u, hu⟩ := h.res
    exact ⟨u, by rw [old _ _ (by omega)]; exact hu⟩
  · intro k hk
    by_cases e : k = i
    · subst e; rw [updV_same]; exact cset_eq _ _ _ _ _ (h.x k hk)
    · rw [updV_ne _ e, old _ _ (by omega)]; exact h.x k hk
  · intro k hk; rw [old _ _ (by omega)]; exact h.y k hk
  · intro k hk; rw [old _ _ (by omega)]; exact h.z k hk
  · rw [old _ _ (by omega)]; exact h.o
  · intro k hk; rw [old _ _ (by omega)]; exact h.b0 k hk
  · intro k hk; rw [old _ _ (by omega)]; exact h.b1 k hk
  · intro k hk; rw [old _ _ (by omega)]; exact h.b2 k hk
  · intro b o h1 h2; simpa using h.fz b o h1 h2
theorem Ob.setY (h : Ob w rb xb yb zb ob pb m NB xv yv tm) {i : Nat} (hi : i < m) (v : Value) : Ob (w.setCell ⟨yb, i, none⟩ v) rb xb yb zb ob pb m NB xv (updV yv i v) tm := by
  have o1 := h.o1; have o2 := h.o2; have o3 := h.o3; have o4 := h.o4; have o5 := h.o5; have top := h.top
  have old : ∀ b k, ¬ (b = yb ∧ k = i) → (w.setCell ⟨yb, i, none⟩ v).cell? ⟨b, k, none⟩ = w.cell? ⟨b, k, none⟩ := fun b k hn => cset_ne _ _ _ _ _ _ hn
  refine ⟨o1, o2, o3, o4, o5, by simpa using top, ?_, ?_, ?_, ?_, ?_, ?_, ?_, ?_, ?_⟩
  · obtain ⟨u, hu⟩ := h.res
    exact ⟨u, by rw [old _ _ (by omega)]; exact hu⟩
  · intro k hk; rw [old _ _ (by omega)]; exact h.x k hk
  · intro k hk
    by_cases e : k = i
    · subst e; rw [updV_same]; exact cset_eq _ _ _ _ _ (h.y k hk)
    · rw [updV_ne _ e, old _ _ (by omega)]; exact h.y k hk
  · intro k hk; rw [old _ _ (by omega)]; exact h.z k hk
  · rw [old _ _ (by omega)]; exact h.o
  · intro k hk; rw [old _ _ (by omega)]; exact h.b0 k hk
  · intro k hk; rw [old _ _ (by omega)]; exact h.b1 k hk
  · intro k hk; rw [old _ _ (by omega)]; exact h.b2 k hk
  · intro b o h1 h2; simpa using h.fz b o h1 h2
theorem Ob.setT (h : Ob w rb xb yb zb ob pb m NB xv yv tm) {j : Nat} (hj : j < NB) (x : Nat) : Ob (w.setCell ⟨pb + j, 2, none⟩ (.int .i64 (x : Int))) rb xb yb zb ob pb m NB xv yv (upd tm j x) := by
  have o1 := h.o1; have o2 := h.o2; have o3 := h.o3; have o4 := h.o4; have o5 := h.o5; have top := h.top
  have old : ∀ b k, ¬ (b = pb + j ∧ k = 2) → (w.setCell ⟨pb + j, 2, none⟩ (.int .i64 (x : Int))).cell? ⟨b, k, none⟩ = w.cell? ⟨b, k, none⟩ := fun b k hn => cset_ne _ _ _ _ _ _ hn
  refine ⟨o1, o2, o3, o4, o5, by simpa using top, ?_, ?_, ?_, ?_, ?_, ?_, ?_, ?_, ?_⟩
  · obtain ⟨u, hu⟩ := h.res
    exact ⟨u, by rw [old _ _ (by omega)]; exact hu⟩
  · intro k hk; rw [old _ _ (by omega)]; exact h.x k hk
  · intro k hk; rw [old _ _ (by omega)]; exact h.y k hk
  · intro k hk; rw [old _ _ (by omega)]; exact h.z k hk
  · rw [old _ _ (by omega)]; exact h.o
  · intro k hk; rw [old _ _ (by omega)]; exact h.b0 k hk
  · intro k hk; rw [old _ _ (by omega)]; exact h.b1 k hk
  · intro k hk
    by_cases e : k = j
    · subst e; rw [upd_same]; exact cset_eq _ _ _ _ _ (h.b2 k hk)
    · rw [upd_ne _ e, old _ _ (by omega)]; exact h.b2 k hk
  · intro b o h1 h2; simpa using h.fz b o h1 h2

/-- The row of positions under way: t are written. -/
structure PL (w : World) (gb m : Nat) (τ : Nat → Nat) (t : Nat) : Prop where
  c : ∀ i, i < t → w.cell? ⟨gb, τ i, none⟩ = some (.int .i64 (i : Int))
  s : ∀ k, k < m → ∃ v, w.cell? ⟨gb, k, none⟩ = some v
  fz : ∀ o, w.frozen? ⟨gb, o, none⟩ = false
theorem PL.step {gb t : Nat} {τ : Nat → Nat} (h : PL w gb m τ t) (hl : τ t < m) (hi : ∀ i, i < t → τ i ≠ τ t) : PL (w.setCell ⟨gb, τ t, none⟩ (.int .i64 (t : Int))) gb m τ (t + 1) := by
  refine ⟨fun i h1 => ?_, fun k hk => ?_, fun o => by simpa using h.fz o⟩
  · by_cases e : i = t
    · subst e
      obtain ⟨v, hv⟩ := h.s _ hl
      exact cset_eq _ _ _ _ _ hv
    · rw [cset_ne _ _ _ _ _ _ (by have := hi i (by omega); omega)]; exact h.c i (by omega)
  · obtain ⟨v, hv⟩ := h.s k hk
    by_cases e : k = τ t
    · subst e; exact ⟨_, cset_eq _ _ _ _ _ hv⟩
    · exact ⟨v, by rw [cset_ne _ _ _ _ _ _ (by omega)]; exact hv⟩
theorem PL.keep {gb t : Nat} {τ : Nat → Nat} (h : PL w gb m τ t) (hk : Kp P w w') (hb : ¬ P gb) (hl : gb < w.heap.size) : PL w' gb m τ t :=
  ⟨fun i hi => hk.cell hb (h.c i hi), fun k hk' => some_keep (h.s k hk') fun v hv => hk.cell hb hv, fun o => (hk.frozen hl hb).trans (h.fz o)⟩

end Go.Proofs.Ybulkaixg.Ord
