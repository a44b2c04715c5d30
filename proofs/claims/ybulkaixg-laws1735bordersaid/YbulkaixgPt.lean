/-
  Pointers compared; a row of pointers (slice type 103) that is appended to; indices kept.
-/
import Derived.Test.YbulkaixgNoB
import Derived.LaidEqlPtr
import Derived.ArgAppend
import Derived.Deep.RegionLawGrows
import Derived.Deep.MidRow
namespace Go.Proofs.Ybulkaixg.Ord
open Go.RowKit
set_option linter.unusedVariables false
set_option linter.unusedSimpArgs false
set_option maxRecDepth 100000

/-- The indices below k that are kept. -/
def flv (lvf : Nat → Bool) (k : Nat) : List Nat := (List.range k).filter lvf
theorem flv_yes {lvf : Nat → Bool} {k : Nat} (h : lvf k = true) : flv lvf (k + 1) = flv lvf k ++ [k] := by
  unfold flv
  rw [List.range_succ, List.filter_append]
  simp [h]
theorem flv_no {lvf : Nat → Bool} {k : Nat} (h : lvf k = false) : flv lvf (k + 1) = flv lvf k := by
  unfold flv
  rw [List.range_succ, List.filter_append]
  simp [h]
theorem flv_le (lvf : Nat → Bool) (k : Nat) : (flv lvf k).length ≤ k := by
  have := List.length_filter_le lvf (List.range k)
  simpa [flv] using this
theorem flv_mem {lvf : Nat → Bool} {k j : Nat} (h : j < (flv lvf k).length) : (flv lvf k).getD j 0 < k ∧ lvf ((flv lvf k).getD j 0) = true := by
  have hm : (flv lvf k).getD j 0 ∈ flv lvf k := by
    rw [List.getD_eq_getElem?_getD, List.getElem?_eq_getElem h]
    exact List.getElem_mem h
  have := List.mem_filter.1 hm
  exact ⟨by simpa using this.1, this.2⟩
theorem flv_inj {lvf : Nat → Bool} {k i j : Nat} (hi : i < (flv lvf k).length) (hj : j < (flv lvf k).length) (e : (flv lvf k).getD i 0 = (flv lvf k).getD j 0) : i = j := by
  have hnd : (flv lvf k).Nodup := List.Pairwise.filter _ List.nodup_range
  rw [List.getD_eq_getElem?_getD, List.getElem?_eq_getElem hi, List.getD_eq_getElem?_getD, List.getElem?_eq_getElem hj] at e
  have h2 : (flv lvf k)[i]? = (flv lvf k)[j]? := by
    rw [List.getElem?_eq_getElem hi, List.getElem?_eq_getElem hj]
    exact congrArg some e
  exact (List.getElem?_inj hi hnd).1 h2

theorem info131 : ∃ i z, Yba.prog.info? 131 = some i ∧ i.zero = some z ∧ i.size = 1 ∧ i.bytes ≤ 100 ∧ z.cells.size = 1 := by
  have h : (Yba.prog.info? 131).map (fun i => (i.zero.map (fun z => z.cells.size), i.size, decide (i.bytes ≤ 100))) = some (some 1, 1, true) := by kernel_rfl
  obtain ⟨i, hi, hb⟩ := Option.map_eq_some_iff.1 h
  simp only [Prod.mk.injEq, decide_eq_true_eq] at hb
  obtain ⟨z, hz, hzs⟩ := Option.map_eq_some_iff.1 hb.1
  exact ⟨i, z, hi, hz, hb.2.1, hb.2.2, hzs⟩

/-- A pointer to a block's head, or nil. -/
def pv : Option Nat → Value
  | none => .pointer none
  | some b => .pointer (some ⟨b, 0, none⟩)

theorem eqIn131 (x y : Option Nat) (w : World) (hx : ∀ b, x = some b → Pl w b) (hy : ∀ b, y = some b → Pl w b) (d : Nat) : (Op.equalIn (d + 1) 131 (pv x) (pv y)).run Yba.prog w = .ok (decide (x = y)) w := by
  have hs : ((Yba.prog.info? 140).map (fun i => decide (i.size ≠ 0))) = some true := by kernel_rfl
  obtain ⟨j, hj, hz⟩ := Option.map_eq_some_iff.1 hs
  have hz' : j.size ≠ 0 := of_decide_eq_true hz
  have hp : Yba.prog.underlying 131 = some (.pointer 140) := Yba.underlying131
  cases x with
  | none =>
    cases y with
    | none => simp [Op.equalIn, run_underlying hp, pv]
    | some b => simp [Op.equalIn, run_underlying hp, pv]
  | some a =>
    cases y with
    | none => simp [Op.equalIn, run_underlying hp, pv]
    | some b =>
      by_cases e : a = b
      · subst e
        simp [Op.equalIn, run_underlying hp, pv, sizeOf, typeInfo, hj, hz', run_sameAddr_same]
      · obtain ⟨ca, ta, ha⟩ := hx a rfl
        obtain ⟨cb, tb, hb⟩ := hy b rfl
        have hne : (⟨a, 0, none⟩ : Addr) ≠ ⟨b, 0, none⟩ := by intro h; cases h; exact e rfl
        simp [Op.equalIn, run_underlying hp, pv, sizeOf, typeInfo, hj, hz', run_sameAddr_other w hne ha hb, e]
theorem eql131 (x y : Option Nat) (w : World) (hx : ∀ b, x = some b → Pl w b) (hy : ∀ b, y = some b → Pl w b) : (binOp .eql 131 (pv x) (pv y)).run Yba.prog w = .ok (.bool (decide (x = y))) w := by
  have h := eqIn131 x y w hx hy 9999
  cases x <;> cases y <;> (simp only [pv] at h ⊢; simp only [binOp]; simp [Op.equal, Op.maxDepth, h])
theorem neq131 (x y : Option Nat) (w : World) (hx : ∀ b, x = some b → Pl w b) (hy : ∀ b, y = some b → Pl w b) : (binOp .neq 131 (pv x) (pv y)).run Yba.prog w = .ok (.bool (!decide (x = y))) w := by
  have h := eqIn131 x y w hx hy 9999
  cases x <;> cases y <;> (simp only [pv] at h ⊢; simp only [binOp]; simp [Op.equal, Op.maxDepth, h])

/-- append of one pointer where there is room. -/
theorem wpList_in {ops : Array Oper} {rest : List Oper} {o : Oper} {a : Act} {w : World} {Q : Exit → Act → World → Prop}
    (hg : o.guard = none) (s x : Operand) (hop : o.op = Op.call { callee := Callee.builtin Builtin.append, args := #[s, x], argTypes := #[103, 103] })
    (b k cap : Nat) (hs : a.eval s = .slice (some ⟨b, 0, none⟩) k cap) (f : Nat → Value) (hf : ∀ j, j < k → w.cell? ⟨b, j, none⟩ = some (f j)) (hroom : k + 1 ≤ cap) (hk : k ≤ 4000) (hsp : (w.cell? ⟨b, k, none⟩).isSome = true ∧ w.frozen? ⟨b, k, none⟩ = false)
    (ad : Addr) (c : Nat) (u : Value) (hx : a.eval x = .slice (some ad) 1 c) (hc : w.cell? (ad.add 0) = some u) (hu : u.oneCell' = true)
    (hK : wpList Yba.prog ops Q rest (a.put o.dst (.slice (some ⟨b, 0, none⟩) (k + 1) cap)) (w.setCell ⟨b, k, none⟩ u)) :
    wpList Yba.prog ops Q (o :: rest) a w := by
  obtain ⟨i, z, hi, hz, his, hib, hzs⟩ := info131
  have hnews : ∀ j x, [u][j]? = some x → w.cell? (ad.add j) = some x := by
    intro j x hx
    match j with
    | 0 => simp at hx; subst hx; exact hc
    | j + 1 => simp at hx
  have h1 : ∀ x ∈ [u], x.oneCell' = true := by intro x hx; rw [List.mem_singleton.1 hx]; exact hu
  have hbig : k + 1 ≤ maxLen := by unfold maxLen; omega
  have hby : (k + 1) * i.bytes ≤ 140737488355328 := by
    have : (k + 1) * i.bytes ≤ 4001 * 100 := Nat.mul_le_mul (by omega) hib
    omega
  refine wpList_append_arg w hg s x 103 hop 131 i z 1 i.bytes Yba.underlying103 hi hz his rfl hzs (by omega) b 0 k cap (List.ofFn (fun t : Fin k => f t.val)) hs (by simp) ?_ ad 1 c [u] hx rfl hnews h1 ?_ hbig hby ?_ ?_
  · intro j x hx
    have hj : j < k := by
      have := (List.getElem?_eq_some_iff.1 hx).1
      simpa using this
    rw [List.getElem?_ofFn, dif_pos hj] at hx
    cases hx
    rw [Nat.zero_add]
    exact hf j hj
  · intro hr j hj
    simp at hj
    subst hj
    simp only [Nat.zero_add, Nat.mul_one, Nat.add_zero]
    exact hsp
  · intro hr
    simpa [World.setCells] using hK
  · intro hr
    omega

/-- The slice v holds k pointers f. -/
def PRow (w : World) (v : Value) (k : Nat) (f : Nat → Value) : Prop :=
  (v = .slice none 0 0 ∧ k = 0) ∨
  ∃ b cap, v = .slice (some ⟨b, 0, none⟩) k cap ∧ b < w.heap.size ∧ k ≤ cap ∧ cap ≤ maxLen ∧ (∀ j, j < k → w.cell? ⟨b, j, none⟩ = some (f j)) ∧ ∀ j, j < cap → (w.cell? ⟨b, j, none⟩).isSome = true ∧ w.frozen? ⟨b, j, none⟩ = false

theorem PRow.keep {P : Nat → Prop} {w w' : World} {v : Value} {k : Nat} {f : Nat → Value} (h : PRow w v k f) (hf : Kp P w w') (hb : ∀ b, v.ownBlock = some b → ¬ P b) : PRow w' v k f := by
  rcases h with h | ⟨b, cap, rfl, hl, hc, hm, hcell, hsp⟩
  · exact Or.inl h
  · have hn := hb b rfl
    have e : w'.heap[b]? = w.heap[b]? := hf.block b hl hn
    refine Or.inr ⟨b, cap, rfl, Nat.lt_of_lt_of_le hl hf.size, hc, hm, fun j hj => hf.cell hn (hcell j hj), fun j hj => ⟨?_, ?_⟩⟩
    · rw [World.cell?_of_block (a := ⟨b, j, none⟩) e]; exact (hsp j hj).1
    · rw [World.frozen?_of_block (a := ⟨b, j, none⟩) e]; exact (hsp j hj).2
theorem PRow.congr {w : World} {v : Value} {k : Nat} {f f' : Nat → Value} (h : PRow w v k f) (e : ∀ j, j < k → f j = f' j) : PRow w v k f' := by
  rcases h with h | ⟨b, cap, rfl, hl, hc, hm, hcell, hsp⟩
  · exact Or.inl h
  · exact Or.inr ⟨b, cap, rfl, hl, hc, hm, fun j hj => by rw [hcell j hj, e j hj], hsp⟩
theorem PRow.slice {w : World} {v : Value} {k : Nat} {f : Nat → Value} (h : PRow w v k f) : ∃ a c, v = .slice a k c ∧ ∀ j, j < k → ∃ b, a = some ⟨b, 0, none⟩ ∧ w.cell? ⟨b, j, none⟩ = some (f j) := by
  rcases h with ⟨rfl, rfl⟩ | ⟨b, cap, rfl, _, _, _, hc, _⟩
  · exact ⟨_, _, rfl, fun j hj => by omega⟩
  · exact ⟨_, _, rfl, fun j hj => ⟨b, rfl, hc j hj⟩⟩

theorem prow_of_owns {w0 w : World} {v : Value} {k : Nat} {xs : List Value} {f : Nat → Value} (h : w.ownsRow w0.heap.size 131 1 v k xs) (hk : 0 < k) (hx : ∀ j, j < k → xs[j]? = some (f j)) : PRow w v k f ∧ ∀ b, v.ownBlock = some b → w0.heap.size ≤ b := by
  obtain ⟨hl, ⟨_, rfl⟩ | ⟨g, cap, cur, rfl, hb, hg, hc, hm, hs, ht⟩⟩ := h
  · omega
  · refine ⟨Or.inr ⟨g, cap, rfl, (Array.getElem?_eq_some_iff.1 hg).1, hc, hm, ?_, ?_⟩, fun b hb' => ?_⟩
    · intro j hj
      have := hx j hj
      rw [← ht, List.getElem?_take, if_pos (by omega)] at this
      rw [cell_of_row w g _ cur 131 (0, 0) hg]
      simpa using this
    · intro j hj
      have hj' : j < cur.size := by omega
      refine ⟨?_, ?_⟩
      · rw [cell_of_row w g _ cur 131 (0, 0) hg]
        simp [hj']
      · simp [World.frozen?, hg]
    · have e : g = b := Option.some.inj hb'
      omega

theorem kp_setCells (b : Nat) (vs : List Value) : ∀ (o : Nat) (w : World), Kp (fun x => x = b) w (w.setCells b o vs) := by
  induction vs with
  | nil => intro o w; exact Kp.refl _ _
  | cons v r ih => intro o w; exact Kp.trans (Kp.set (Kp.refl (fun x => x = b) w) (Or.inl rfl) v) (ih (o + 1) _)

/-- append of one pointer, in a plain region. -/
theorem wpList_ptr {ops : Array Oper} {rest : List Oper} {o : Oper} {a : Act} {w : World} {Q : Exit → Act → World → Prop}
    (hg : o.guard = none) (s x : Operand) (hop : o.op = Op.call { callee := Callee.builtin Builtin.append, args := #[s, x], argTypes := #[103, 103] })
    (v : Value) (k : Nat) (f : Nat → Value) (hs : a.eval s = v) (hrow : PRow w v k f) (hk : k ≤ 4000) (ad : Addr) (c : Nat) (u : Value) (hx : a.eval x = .slice (some ad) 1 c) (hc : w.cell? (ad.add 0) = some u) (hu : u.oneCell' = true)
    (hK : ∀ v' w', PRow w' v' (k + 1) (fun j => if j < k then f j else u) → Kp (fun b => v.ownBlock = some b) w w' → (∀ b, v'.ownBlock = some b → v.ownBlock = some b ∨ w.heap.size ≤ b) → wpList Yba.prog ops Q rest (a.put o.dst v') w') :
    wpList Yba.prog ops Q (o :: rest) a w := by
  obtain ⟨i, z, hi, hz, his, hib, hzs⟩ := info131
  have hnews : ∀ j x, [u][j]? = some x → w.cell? (ad.add j) = some x := by
    intro j x hx
    match j with
    | 0 => simp at hx; subst hx; exact hc
    | j + 1 => simp at hx
  have h1 : ∀ x ∈ [u], x.oneCell' = true := by intro x hx; rw [List.mem_singleton.1 hx]; exact hu
  have hbig : k + 1 ≤ maxLen := by unfold maxLen; omega
  have hby : (k + 1) * i.bytes ≤ 140737488355328 := by
    have : (k + 1) * i.bytes ≤ 4001 * 100 := Nat.mul_le_mul (by omega) hib
    omega
  rcases hrow with ⟨rfl, rfl⟩ | ⟨b, cap, rfl, hbl, hcap, hmx, hcell, hsp⟩
  · refine wpList_append_grows w hg s x 103 hop 131 i z 1 i.bytes Yba.underlying103 hi hz his rfl hzs (by omega) none 0 0 [] hs (fun _ => ⟨rfl, rfl⟩) rfl (fun b hb => by cases hb) ad 1 c [u] hx rfl hnews h1 (by omega) hbig hby ?_
    intro v' w' hown hgr
    obtain ⟨h2, h3⟩ := prow_of_owns (f := fun j => if j < 0 then f j else u) hown (by omega) (by
      intro j hj
      obtain rfl : j = 0 := by omega
      simp)
    exact hK v' w' h2 (Kp.grown hgr (fun b hb => by cases hb)) (fun b hb => Or.inr (h3 b hb))
  · refine wpList_append_arg w hg s x 103 hop 131 i z 1 i.bytes Yba.underlying103 hi hz his rfl hzs (by omega) b 0 k cap (List.ofFn (fun t : Fin k => f t.val)) hs (by simp) ?_ ad 1 c [u] hx rfl hnews h1 ?_ hbig hby ?_ ?_
    · intro j x hx
      have hj : j < k := by
        have := (List.getElem?_eq_some_iff.1 hx).1
        simpa using this
      rw [List.getElem?_ofFn, dif_pos hj] at hx
      cases hx
      rw [Nat.zero_add]
      exact hcell j hj
    · intro hr j hj
      simp at hj
      subst hj
      simp only [Nat.zero_add, Nat.mul_one, Nat.add_zero]
      exact hsp k (by omega)
    · intro hr
      refine hK _ _ (Or.inr ⟨b, cap, rfl, ?_, hr, hmx, ?_, ?_⟩) ((kp_setCells b _ _ w).mono (fun x _ e => by rw [e]; rfl)) (fun b' hb' => Or.inl hb')
      · exact Nat.lt_of_lt_of_le hbl (kp_setCells b _ _ w).size
      · intro j hj
        by_cases e : j < k
        · rw [World.cell?_setCells_out b _ _ _ _ (by intro _ _; left; simp; omega), hcell j e]
          simp [e]
        · obtain rfl : j = k := by omega
          have hin := World.cell?_setCells_in b [u] (0 + j * 1) w (by
            intro t ht
            simp at ht
            subst ht
            have := (hsp j (by omega)).1
            simpa using this) 0 (by simp)
          simp only [Nat.zero_add, Nat.mul_one, Nat.add_zero] at hin ⊢
          rw [hin]
          simp
      · intro j hj
        refine ⟨World.isSome_setCells b _ _ _ _ (hsp j hj).1, ?_⟩
        rw [World.frozen?_setCells]; exact (hsp j hj).2
    · intro hr v' w' hown hgr
      obtain ⟨h2, h3⟩ := prow_of_owns (f := fun j => if j < k then f j else u) hown (by omega) (by
        intro j hj
        by_cases e : j < k
        · rw [List.getElem?_append_left (by simpa using e), List.getElem?_ofFn, dif_pos e]
          simp [e]
        · obtain rfl : j = k := by omega
          rw [List.getElem?_append_right (by simp)]
          simp)
      exact hK v' w' h2 (Kp.grown hgr (fun b hb => by cases hb)) (fun b hb => Or.inr (h3 b hb))

end Go.Proofs.Ybulkaixg.Ord
