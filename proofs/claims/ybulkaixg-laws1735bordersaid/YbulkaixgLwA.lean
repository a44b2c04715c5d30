/-
  The law of the order: what its first loop lays down; which held are kept.
-/
import Derived.Test.YbulkaixgOr
namespace Go.Proofs.Ybulkaixg.Ord
open Go.RowKit Go.Maps Go.WideMaps Mp
set_option linter.unusedVariables false
set_option linter.unusedSimpArgs false
set_option maxRecDepth 100000

theorem Kp.cellA {P : Nat → Prop} {w w' : World} (h : Kp P w w') {a : Addr} {v : Value} (hb : ¬ P a.block) (hc : w.cell? a = some v) : w'.cell? a = some v :=
  (World.cell?_of_block (h.block a.block (block_lt_of_cell hc) hb)).trans hc

/-- The keys and the modes, as they were handed in. -/
def KeyS (w : World) (a : Option Addr) (n : Nat) (Kf : Nat → ByteArray) : Prop := ∀ i, i < n → ∃ x, a = some x ∧ w.cell? (x.add i) = some (.string (Kf i)) ∧ (Kf i).size ≤ maxLen
def ByS (w : World) (a : Option Addr) (n : Nat) (ms : Nat → Nat) : Prop := ∀ i, i < n → ∃ x, a = some x ∧ w.cell? (x.add i) = some (.int .u8 (ms i : Int)) ∧ ms i < 256
theorem KeyS.keep {w w' : World} {a : Option Addr} {n : Nat} {Kf : Nat → ByteArray} (h : KeyS w a n Kf) {P : Nat → Prop} (hk : Kp P w w') (hP : ∀ b, b < w.heap.size → ¬ P b) : KeyS w' a n Kf := fun i hi => by
  obtain ⟨x, e, hc, hl⟩ := h i hi
  exact ⟨x, e, hk.cellA (hP _ (block_lt_of_cell hc)) hc, hl⟩
theorem ByS.keep {w w' : World} {a : Option Addr} {n : Nat} {ms : Nat → Nat} (h : ByS w a n ms) {P : Nat → Prop} (hk : Kp P w w') (hP : ∀ b, b < w.heap.size → ¬ P b) : ByS w' a n ms := fun i hi => by
  obtain ⟨x, e, hc, hl⟩ := h i hi
  exact ⟨x, e, hk.cellA (hP _ (block_lt_of_cell hc)) hc, hl⟩

/-- The mode of i. -/
def modeF (n1 : Nat) (ms : Nat → Nat) (i : Nat) : Nat := if i < n1 then ms i % 3 else 0
theorem modeF_lt (n1 : Nat) (ms : Nat → Nat) (i : Nat) : modeF n1 ms i < 3 := by unfold modeF; split <;> omega

theorem mode_walk (a1 : Option Addr) (n1 c1 i : Nat) (ms : Nat → Nat) (w : World) (h : ByS w a1 n1 ms) (hi : i < 1099511627776) :
    Calls Yba.prog 15 #[.slice a1 n1 c1, .int .i64 (i : Int)] w fun e w' => e = .returned (.int .i64 (modeF n1 ms i : Nat)) ∧ w' = w := by
  go_enter Yba.func15, Yba.ntmps15
  by_cases hlt : i < n1
  · obtain ⟨x, rfl, hc, hb⟩ := h i hlt
    have hz : (i : Int) < (n1 : Int) := by omega
    have e : modeF n1 ms i = ms i % 3 := by unfold modeF; rw [if_pos hlt]
    obtain ⟨b, hb2⟩ : ∃ b : Nat, b = ms i := ⟨_, rfl⟩
    rw [← hb2] at hc hb e
    obtain ⟨r, hr⟩ : ∃ r : Nat, r = b % 3 := ⟨_, rfl⟩
    have er : (b : Int) % 3 = (r : Int) := by omega
    rw [e, ← hr]
    have hr3 : r < 3 := by omega
    clear hb2 e hr
    go_wp2
    go_ret
    exact ⟨rfl, rfl⟩
  · have hz : ¬ (i : Int) < (n1 : Int) := by omega
    have e : modeF n1 ms i = 0 := by unfold modeF; rw [if_neg hlt]
    rw [e]
    go_wp2
    go_ret
    exact ⟨rfl, rfl⟩

/-- What the map of keys holds after i rounds. -/
def mvf (Kf : Nat → ByteArray) (md vb : Nat → Nat) : Nat → List UInt8 → Option Nat
  | 0, _ => none
  | i + 1, l => if md i = 2 then mvf Kf md vb i l else if l = (Kf i).data.toList then some (vb i) else mvf Kf md vb i l

theorem mvf_congr (Kf : Nat → ByteArray) (md vb vb' : Nat → Nat) (i : Nat) (h : ∀ j, j < i → vb j = vb' j) (l : List UInt8) : mvf Kf md vb i l = mvf Kf md vb' i l := by
  induction i with
  | zero => rfl
  | succ i ih =>
    simp only [mvf]
    rw [ih (fun j hj => h j (by omega)), h i (by omega)]
theorem mvf_some {Kf : Nat → ByteArray} {md vb : Nat → Nat} {i b : Nat} {l : List UInt8} (h : mvf Kf md vb i l = some b) : ∃ j, j < i ∧ md j ≠ 2 ∧ b = vb j := by
  induction i with
  | zero => simp [mvf] at h
  | succ i ih =>
    simp only [mvf] at h
    split at h
    · obtain ⟨j, h1, h2⟩ := ih h; exact ⟨j, by omega, h2⟩
    · split at h
      · rename_i h2 _; cases h; exact ⟨i, by omega, h2, rfl⟩
      · obtain ⟨j, h1, h2⟩ := ih h; exact ⟨j, by omega, h2⟩

/-- i is kept: its mode is 0, and no later one of its key has a mode but 2. -/
def Kpt (Kf : Nat → ByteArray) (md : Nat → Nat) (n i : Nat) : Prop := md i = 0 ∧ ∀ j, i < j → j < n → (Kf j).data.toList = (Kf i).data.toList → md j = 2

theorem mvf_kept (Kf : Nat → ByteArray) (md vb hb : Nat → Nat) (n : Nat) (hm : ∀ j, md j < 3) (v0 : ∀ j, j < n → md j = 0 → vb j = hb j) (v1 : ∀ j, j < n → md j = 1 → ∀ t, t < n → vb j ≠ hb t) (hj : ∀ j k, j < n → k < n → hb j = hb k → j = k) :
    ∀ k, k ≤ n → ∀ i, i < n → (mvf Kf md vb k (Kf i).data.toList = some (hb i) ↔ i < k ∧ Kpt Kf md k i) := by
  intro k
  induction k with
  | zero => intro _ i hi; simp [mvf]
  | succ k ih =>
    intro hk i hi
    have ihk := ih (by omega) i hi
    simp only [mvf]
    by_cases h2 : md k = 2
    · rw [if_pos h2, ihk]
      constructor
      · rintro ⟨h3, h4, h5⟩
        exact ⟨by omega, h4, fun j h6 h7 h8 => by
          by_cases e : j = k
          · subst e; exact h2
          · exact h5 j h6 (by omega) h8⟩
      · rintro ⟨h3, h4, h5⟩
        refine ⟨?_, h4, fun j h6 h7 h8 => h5 j h6 (by omega) h8⟩
        by_cases e : i = k
        · subst e; omega
        · omega
    · rw [if_neg h2]
      by_cases hl : (Kf i).data.toList = (Kf k).data.toList
      · rw [if_pos hl]
        have h3 := hm k
        have hv : vb k = hb i ↔ i = k ∧ md k = 0 := by
          by_cases h0 : md k = 0
          · rw [v0 k (by omega) h0]
            constructor
            · intro e; exact ⟨(hj k i (by omega) hi e).symm, h0⟩
            · rintro ⟨rfl, _⟩; rfl
          · constructor
            · intro e; exact absurd e (v1 k (by omega) (by omega) i hi)
            · intro e; exact absurd e.2 h0
        rw [Option.some.injEq, hv]
        constructor
        · rintro ⟨rfl, h0⟩
          exact ⟨by omega, h0, fun j h6 h7 _ => by omega⟩
        · rintro ⟨h4, h5, h6⟩
          by_cases e : i = k
          · subst e; exact ⟨rfl, h5⟩
          · exact absurd (h6 k (by omega) (by omega) hl.symm) h2
      · rw [if_neg hl, ihk]
        constructor
        · rintro ⟨h3, h4, h5⟩
          exact ⟨by omega, h4, fun j h6 h7 h8 => by
            by_cases e : j = k
            · subst e; exact absurd h8.symm hl
            · exact h5 j h6 (by omega) h8⟩
        · rintro ⟨h3, h4, h5⟩
          refine ⟨?_, h4, fun j h6 h7 h8 => h5 j h6 (by omega) h8⟩
          by_cases e : i = k
          · subst e; exact absurd rfl hl
          · omega

theorem own_mono {w : World} {b n n' : Nat} {D : DataW Unit} (h : w.ownsMap Yba.prog 9 ptrE b n D) (hn : n ≤ n') : w.ownsMap Yba.prog 9 ptrE b n' D := by
  obtain ⟨es, clock, hh, F, hs, hD⟩ := h
  exact ⟨es, clock, hh, F, Nat.le_trans hs hn, hD⟩

def ttF (i : Nat) : Int := if i % 2 = 1 then 1 else 0
def smF (i : Nat) : Int := (i : Int) + 1

/-- The law's first loop: i held are laid, u of them are in the map. -/
structure T1 (W wr : World) (n M R B : Nat) (hb vb : Nat → Nat) (Kf : Nat → ByteArray) (md : Nat → Nat) (D : DataW Unit) (i u : Nat) : Prop where
  kp : Kp (fun _ => False) W wr
  lM : W.heap.size ≤ M
  lR : M < R
  lB : R < B
  lw : B < wr.heap.size
  r6 : wr.cell? ⟨R, 6, none⟩ = some (.map (some M))
  r7 : ∃ v, wr.cell? ⟨R, 7, none⟩ = some v
  rf : wr.frozen? ⟨R, 7, none⟩ = false
  row : ∀ j, j < i → wr.cell? ⟨B, j, none⟩ = some (.pointer (some ⟨hb j, 0, none⟩))
  ex : ∀ j, j < n → ∃ v, wr.cell? ⟨B, j, none⟩ = some v
  bf : ∀ o, wr.frozen? ⟨B, o, none⟩ = false
  hs : ∀ j, j < i → HB wr (hb j) (Kf j) (ttF j) (smF j)
  lb : ∀ j, j < i → B < hb j
  hj : ∀ j k, j < i → k < i → hb j = hb k → j = k
  map : wr.ownsMap Yba.prog 9 ptrE M u D
  says : ∀ l, D.atKey (.string l) .nil = match mvf Kf md vb u l with | none => .nil | some b => .lit (.int .i64 b)
  v0 : ∀ j, j < u → md j = 0 → vb j = hb j
  v1 : ∀ j, j < u → md j = 1 → ∀ t, t < i → vb j ≠ hb t
  vp : ∀ j, j < u → md j ≠ 2 → Pl wr (vb j) ∧ B < vb j

variable {W wr wy : World} {n M R B : Nat} {hb vb : Nat → Nat} {Kf : Nat → ByteArray} {md : Nat → Nat} {D : DataW Unit} {i u : Nat}

theorem HB.new (w : World) (Z : Array Value) (T : TypeId) (h : Nat) (k : ByteArray) (t s : Int) (hh : h = w.heap.size) (hz : ∀ o, o < 18 → Z[o]? = some (hcell k t s o)) (hn : ∃ v, Z[18]? = some v) : HB (w.alloc (.cells Z T)) h k t s := by
  subst hh
  refine ⟨⟨Z, T, heap_alloc_new w _⟩, fun o ho => (alloc_new _ _ _ _ _ rfl).trans (hz o ho), ?_, fun o => alloc_newf _ _ _ _ _ rfl⟩
  obtain ⟨v, hv⟩ := hn
  exact ⟨v, (alloc_new _ _ _ _ _ rfl).trans hv⟩

theorem T1.keep (h : T1 W wr n M R B hb vb Kf md D i u) (hk : Kp (fun _ => False) wr wy) : T1 W wy n M R B hb vb Kf md D i u := by
  obtain ⟨kp, lM, lR, lB, lw, r6, ⟨v7, r7⟩, rf, row, ex, bf, hs, lb, hj, map, says, v0, v1, vp⟩ := h
  exact ⟨kp.trans hk, lM, lR, lB, Nat.lt_of_lt_of_le lw hk.size, hk.cell id r6, ⟨v7, hk.cell id r7⟩, (hk.frozen (block_lt_of_cell r7) id).trans rf, fun j hj => hk.cell id (row j hj), fun j hj => some_keep (ex j hj) fun v hv => hk.cell id hv, fun o => (hk.frozen lw id).trans (bf o),
    fun j hj => (hs j hj).keep hk id, lb, hj, hk.map id map, says, v0, v1, fun j h1 h2 => ⟨(vp j h1 h2).1.keep hk id, (vp j h1 h2).2⟩⟩

/-- One more held. -/
theorem T1.held (h : T1 W wr n M R B hb vb Kf md D i i) (hi : i < n) (Z : Array Value) (hz : ∀ o, o < 18 → Z[o]? = some (hcell (Kf i) (ttF i) (smF i) o)) (hn : ∃ v, Z[18]? = some v) {H : Nat} (hH : H = wr.heap.size) :
    T1 W ((wr.setCell ⟨B, i, none⟩ (.pointer (some ⟨H, 0, none⟩))).alloc (.cells Z 140)) n M R B (upd hb i H) vb Kf md D (i + 1) i := by
  obtain ⟨kp, lM, lR, lB, lw, r6, ⟨v7, r7⟩, rf, row, ex, bf, hs, lb, hj, map, says, v0, v1, vp⟩ := h
  have lW : W.heap.size ≤ wr.heap.size := kp.size
  have kB : Kp (fun b => b = B) wr ((wr.setCell ⟨B, i, none⟩ (.pointer (some ⟨H, 0, none⟩))).alloc (.cells Z 140)) := (Kp.set (P := fun b => b = B) (Kp.refl _ _) (Or.inl rfl) _).alloc _
  have cB : ∀ o, ((wr.setCell ⟨B, i, none⟩ (.pointer (some ⟨H, 0, none⟩))).alloc (.cells Z 140)).cell? ⟨B, o, none⟩ = (wr.setCell ⟨B, i, none⟩ (.pointer (some ⟨H, 0, none⟩))).cell? ⟨B, o, none⟩ := fun o => alloc_old _ _ _ _ (by simpa using lw)
  refine ⟨(kp.set (Or.inr (show W.heap.size ≤ B by omega)) _).alloc _, lM, lR, lB, by simp; omega, kB.cell (show ¬ R = B by omega) r6, ⟨v7, kB.cell (show ¬ R = B by omega) r7⟩, (kB.frozen (block_lt_of_cell r7) (show ¬ R = B by omega)).trans rf, ?_, ?_, ?_, ?_, ?_, ?_, kB.map (show ¬ M = B by omega) map, says, ?_, ?_, ?_⟩
  · intro j hj'
    rw [cB]
    by_cases e : j = i
    · subst e
      obtain ⟨v, hv⟩ := ex j hi
      rw [upd_same]
      exact cset_eq _ _ _ _ _ hv
    · rw [upd_ne _ e, cset_ne _ _ _ _ _ _ (by omega)]; exact row j (by omega)
  · intro j hj'
    rw [cB]
    obtain ⟨v, hv⟩ := ex j hj'
    by_cases e : j = i
    · subst e; exact ⟨_, cset_eq _ _ _ _ _ hv⟩
    · exact ⟨v, by rw [cset_ne _ _ _ _ _ _ (by omega)]; exact hv⟩
  · intro o
    refine (alloc_oldf _ _ _ _ (by simpa using lw)).trans ?_
    simpa using bf o
  · intro j hj'
    by_cases e : j = i
    · subst e
      rw [upd_same]
      exact HB.new _ _ _ _ _ _ _ (by simpa using hH) hz hn
    · rw [upd_ne _ e]
      have := lb j (by omega)
      exact (hs j (by omega)).keep kB (show ¬ hb j = B by omega)
  · intro j hj'
    by_cases e : j = i
    · subst e; rw [upd_same]; omega
    · rw [upd_ne _ e]; exact lb j (by omega)
  · intro j k h1 h2 e
    by_cases e1 : j = i
    · by_cases e2 : k = i
      · omega
      · rw [e1, upd_same, upd_ne _ e2] at e
        have := (hs k (by omega)).lt
        omega
    · by_cases e2 : k = i
      · rw [e2, upd_same, upd_ne _ e1] at e
        have := (hs j (by omega)).lt
        omega
      · rw [upd_ne _ e1, upd_ne _ e2] at e
        exact hj j k (by omega) (by omega) e
  · intro j hj' h0
    rw [upd_ne _ (by omega)]; exact v0 j hj' h0
  · intro j hj' h1 t ht
    by_cases e : t = i
    · rw [e, upd_same]
      have := (vp j hj' (by omega)).1.lt
      omega
    · rw [upd_ne _ e]; exact v1 j hj' h1 t (by omega)
  · intro j hj' h2
    have := vp j hj' h2
    exact ⟨this.1.keep kB (show ¬ vb j = B by omega), this.2⟩

/-- Its key is put into the map .. -/
theorem T1.put (h : T1 W wr n M R B hb vb Kf md D (i + 1) i) {v : Nat} {D' : DataW Unit} {w1 : World} (hw : Kp (fun b => b = M) wr w1) (hp : Pl wr v) (hvB : B < v) (h2 : md i ≠ 2) (h0 : md i = 0 → v = hb i) (h1 : md i = 1 → ∀ t, t < i + 1 → v ≠ hb t) (hm : w1.ownsMap Yba.prog 9 ptrE M (i + 1) D')
    (hD : ∀ l, D'.atKey (.string l) .nil = if l = (Kf i).data.toList then .lit (.int .i64 v) else D.atKey (.string l) .nil) : T1 W w1 n M R B hb (upd vb i v) Kf md D' (i + 1) (i + 1) := by
  obtain ⟨kp, lM, lR, lB, lw, r6, ⟨v7, r7⟩, rf, row, ex, bf, hs, lb, hj, map, says, v0, v1, vp⟩ := h
  refine ⟨kp.trans' hw fun b hb e => by omega, lM, lR, lB, Nat.lt_of_lt_of_le lw hw.size, hw.cell (show ¬ R = M by omega) r6, ⟨v7, hw.cell (show ¬ R = M by omega) r7⟩, (hw.frozen (block_lt_of_cell r7) (show ¬ R = M by omega)).trans rf, fun j hj => hw.cell (show ¬ B = M by omega) (row j hj), fun j hj => some_keep (ex j hj) fun u hu => hw.cell (show ¬ B = M by omega) hu,
    fun o => (hw.frozen lw (show ¬ B = M by omega)).trans (bf o), fun j hj => (hs j hj).keep hw (by have := lb j hj; omega), lb, hj, hm, ?_, ?_, ?_, ?_⟩
  · intro l
    rw [hD l]
    simp only [mvf]
    rw [if_neg h2, upd_same, mvf_congr Kf md (upd vb i v) vb i (fun j hj => upd_ne _ (by omega)) l]
    by_cases e : l = (Kf i).data.toList
    · rw [if_pos e, if_pos e]
    · rw [if_neg e, if_neg e, says l]
  · intro j hj' h3
    by_cases e : j = i
    · subst e; rw [upd_same]; exact h0 h3
    · rw [upd_ne _ e]; exact v0 j (by omega) h3
  · intro j hj' h3 t ht
    by_cases e : j = i
    · subst e; rw [upd_same]; exact h1 h3 t ht
    · rw [upd_ne _ e]; exact v1 j (by omega) h3 t ht
  · intro j hj' h3
    by_cases e : j = i
    · subst e; rw [upd_same]; exact ⟨hp.keep hw (by omega), hvB⟩
    · rw [upd_ne _ e]
      have := vp j (by omega) h3
      exact ⟨this.1.keep hw (by omega), this.2⟩
/-- .. or not. -/
theorem T1.skip (h : T1 W wr n M R B hb vb Kf md D (i + 1) i) (h2 : md i = 2) : T1 W wr n M R B hb vb Kf md D (i + 1) (i + 1) := by
  obtain ⟨kp, lM, lR, lB, lw, r6, r7, rf, row, ex, bf, hs, lb, hj, map, says, v0, v1, vp⟩ := h
  refine ⟨kp, lM, lR, lB, lw, r6, r7, rf, row, ex, bf, hs, lb, hj, own_mono map (Nat.le_succ i), ?_, ?_, ?_, ?_⟩
  · intro l
    simp only [mvf]
    rw [if_pos h2]
    exact says l
  · intro j hj' h3
    exact v0 j (by have : j ≠ i := fun e => by subst e; omega
                   omega) h3
  · intro j hj' h3
    exact v1 j (by have : j ≠ i := fun e => by subst e; omega
                   omega) h3
  · intro j hj' h3
    exact vp j (by have : j ≠ i := fun e => h3 (by rw [e]; exact h2)
                   omega) h3

end Go.Proofs.Ybulkaixg.Ord
