/-
  A row of lapses (type 111, five cells each) held by a slice, whatever its offset; append of one, as a step of a region that draws.
-/
import Derived.Test.YbulkaixgProg
import Derived.Deep.RegionLawGrows
import Derived.Deep.MidRow
import Derived.Below
namespace Go.Proofs.Ybulkaixg.Lapse
set_option linter.unusedVariables false
set_option linter.unusedSimpArgs false
set_option maxRecDepth 100000

/-- The slice v holds n lapses, f i q being cell q of lapse i, in a block from B on. -/
def Row (B : Nat) (w : World) (v : Value) (n : Nat) (f : Nat → Nat → Value) : Prop :=
  (v = .slice none 0 0 ∧ n = 0) ∨
  ∃ g o cap, v = .slice (some ⟨g, o, none⟩) n cap ∧ B ≤ g ∧ g < w.heap.size ∧ n ≤ cap ∧ cap ≤ maxLen ∧ (∀ i q, i < n → q < 5 → w.cell? ⟨g, o + (5 * i + q), none⟩ = some (f i q)) ∧
    ∀ j, j < cap * 5 → (w.cell? ⟨g, o + j, none⟩).isSome = true ∧ w.frozen? ⟨g, o + j, none⟩ = false

theorem info111 : ∃ i z, Yba.prog.info? 111 = some i ∧ i.zero = some z ∧ i.size = 5 ∧ i.bytes ≤ 100 ∧ z.cells.size = 5 := by
  have h : (Yba.prog.info? 111).map (fun i => (i.zero.map (fun z => z.cells.size), i.size, decide (i.bytes ≤ 100))) = some (some 5, 5, true) := by kernel_rfl
  obtain ⟨i, hi, hb⟩ := Option.map_eq_some_iff.1 h
  simp only [Prod.mk.injEq, decide_eq_true_eq] at hb
  obtain ⟨z, hz, hzs⟩ := Option.map_eq_some_iff.1 hb.1
  exact ⟨i, z, hi, hz, hb.2.1, hb.2.2, hzs⟩

theorem row_of_owns {B : Nat} {w : World} {v : Value} {n : Nat} {xs : List Value} {f : Nat → Nat → Value} (h : w.ownsRow B 111 5 v n xs) (hn : 0 < n) (hx : ∀ i q, i < n → q < 5 → xs[5 * i + q]? = some (f i q)) : Row B w v n f := by
  obtain ⟨hl, ⟨_, rfl⟩ | ⟨g, cap, cur, rfl, hb, hg, hc, hm, hs, ht⟩⟩ := h
  · omega
  · refine Or.inr ⟨g, 0, cap, rfl, hb, (Array.getElem?_eq_some_iff.1 hg).1, hc, hm, ?_, ?_⟩
    · intro i q hi hq
      have := hx i q hi hq
      rw [← ht, List.getElem?_take] at this
      rw [if_pos (by omega)] at this
      rw [cell_of_row w g _ cur 111 (0, 0) hg]
      simpa using this
    · intro j hj
      have hj' : j < cur.size := by omega
      refine ⟨?_, ?_⟩
      · rw [cell_of_row w g _ cur 111 (0, 0) hg]
        simp [hj']
      · simp [World.frozen?, hg]

theorem grown_trans {a b c : World} {r : Option Nat} (h : a.grownBy b r) (k : b.grownBy c r) : a.grownBy c r :=
  ⟨k.os.trans h.os, k.tape.trans h.tape, k.output.trans h.output, Nat.le_trans h.size k.size, fun j hj hn => (k.block j (Nat.lt_of_lt_of_le hj h.size) hn).trans (h.block j hj hn)⟩
theorem grown_set (w : World) (b o : Nat) (v : Value) : w.grownBy (w.setCell ⟨b, o, none⟩ v) (some b) :=
  ⟨rfl, rfl, rfl, by simp, fun j hj hn => RowKit.Below.heap_setCell w ⟨b, o, none⟩ v j (fun e => hn (by rw [e]))⟩
theorem grown_setCells (b : Nat) : ∀ (vs : List Value) (o : Nat) (w : World), w.grownBy (w.setCells b o vs) (some b)
  | [], _, w => ⟨rfl, rfl, rfl, Nat.le_refl _, fun _ _ _ => rfl⟩
  | v :: r, o, w => grown_trans (grown_set w b o v) (grown_setCells b r (o + 1) _)

/-- f, with the lapse c behind its first n. -/
def snoc (f : Nat → Nat → Value) (n : Nat) (c : Nat → Value) : Nat → Nat → Value := fun i q => if i < n then f i q else c q

theorem news_at {c : Nat → Value} {q : Nat} (hq : q < 5) : [c 0, c 1, c 2, c 3, c 4][q]? = some (c q) := by
  match q, hq with
  | 0, _ => rfl
  | 1, _ => rfl
  | 2, _ => rfl
  | 3, _ => rfl
  | 4, _ => rfl

theorem news_of {w : World} {ad : Addr} {c : Nat → Value} (hc : ∀ q, q < 5 → w.cell? (ad.add q) = some (c q)) : ∀ j u, [c 0, c 1, c 2, c 3, c 4][j]? = some u → w.cell? (ad.add j) = some u := by
  intro j u hu
  by_cases hj : j < 5
  · rw [news_at hj] at hu
    rw [hc j hj, hu]
  · rw [List.getElem?_eq_none (by simp; omega)] at hu
    cases hu

theorem Row.keep {B : Nat} {w w' : World} {v : Value} {n : Nat} {f : Nat → Nat → Value} {r : Option Nat} (h : Row B w v n f) (hg : w.grownBy w' r) (hr : ∀ b, r = some b → v.ownBlock ≠ some b) : Row B w' v n f := by
  rcases h with h | ⟨g, o, cap, rfl, hB, hl, hc, hm, hcell, hsp⟩
  · exact Or.inl h
  · have hb : w'.heap[g]? = w.heap[g]? := hg.block g hl (fun e => hr g e.symm rfl)
    refine Or.inr ⟨g, o, cap, rfl, hB, Nat.lt_of_lt_of_le hl hg.size, hc, hm, fun i q hi hq => ?_, fun j hj => ⟨?_, ?_⟩⟩
    · rw [World.cell?_of_block (a := ⟨g, o + (5 * i + q), none⟩) hb]; exact hcell i q hi hq
    · rw [World.cell?_of_block (a := ⟨g, o + j, none⟩) hb]; exact (hsp j hj).1
    · rw [World.frozen?_of_block (a := ⟨g, o + j, none⟩) hb]; exact (hsp j hj).2

/-- The first lapse overwritten and sliced away. -/
theorem Row.rest {B : Nat} {w : World} {g o n cap : Nat} {f : Nat → Nat → Value} (h : Row B w (.slice (some ⟨g, o, none⟩) (n + 1) cap) (n + 1) f) (vs : List Value) (hv : vs.length = 5) :
    Row B (w.setCells g o vs) (.slice (some ⟨g, o + 5, none⟩) n (cap - 1)) n (fun i => f (i + 1)) := by
  rcases h with ⟨h, _⟩ | ⟨g', o', cap', e, hB, hl, hc, hm, hcell, hsp⟩
  · cases h
  · cases e
    refine Or.inr ⟨g, o + 5, cap - 1, rfl, hB, Nat.lt_of_lt_of_le hl (grown_setCells g _ _ w).size, by omega, by omega, fun i q hi hq => ?_, fun j hj => ⟨?_, ?_⟩⟩
    · rw [World.cell?_setCells_out g _ _ _ _ (by intro _ _; right; simp; omega), show o + 5 + (5 * i + q) = o + (5 * (i + 1) + q) by omega]
      exact hcell (i + 1) q (by omega) hq
    · rw [show o + 5 + j = o + (5 + j) by omega]
      exact World.isSome_setCells g _ _ _ _ (hsp (5 + j) (by omega)).1
    · rw [World.frozen?_setCells, show o + 5 + j = o + (5 + j) by omega]
      exact (hsp (5 + j) (by omega)).2

/-- append of one lapse, as a step of a region that draws. -/
theorem step_app {ops : Array Oper} {o : Oper} {a : Act} {w : World} {K : Act → World → Prop} {Q : Exit → Act → World → Prop} {E : Prop}
    (hg : o.guard = none) (s x : Operand) (hop : o.op = Op.call { callee := Callee.builtin Builtin.append, args := #[s, x], argTypes := #[61, 61] })
    (B : Nat) (v : Value) (n : Nat) (f : Nat → Nat → Value) (hs : a.eval s = v) (hrow : Row B w v n f) (hB : B ≤ w.heap.size) (hn : n ≤ 4000)
    (ad : Addr) (k : Nat) (c : Nat → Value) (hx : a.eval x = .slice (some ad) 1 k) (hc : ∀ q, q < 5 → w.cell? (ad.add q) = some (c q)) (h1c : ∀ q, q < 5 → (c q).oneCell' = true)
    (hK : ∀ v' w', Row B w' v' (n + 1) (snoc f n c) → w.grownBy w' v.ownBlock → K (a.put o.dst v') w') :
    if Region.wanted o (yielded ops a.tmps) = true then Oper.wp Yba.prog o a w K Q else E := by
  obtain ⟨i, z, hi, hz, his, hib, hzs⟩ := info111
  have h1 : ∀ u ∈ [c 0, c 1, c 2, c 3, c 4], u.oneCell' = true := by
    intro u hu
    simp only [List.mem_cons, List.not_mem_nil, or_false] at hu
    rcases hu with rfl | rfl | rfl | rfl | rfl <;> exact h1c _ (by omega)
  have hbig : n + 1 ≤ maxLen := by unfold maxLen; omega
  have hby : (n + 1) * i.bytes ≤ 140737488355328 := by
    have : (n + 1) * i.bytes ≤ 4001 * 100 := Nat.mul_le_mul (by omega) hib
    omega
  rcases hrow with ⟨rfl, rfl⟩ | ⟨g, off, cap, rfl, hBg, hgl, hcap, hmx, hcell, hsp⟩
  · refine step_append_grows hg s x 61 hop 111 i z 5 i.bytes Yba.underlying61 hi hz his rfl hzs (by omega) none 0 0 [] hs (fun _ => ⟨rfl, rfl⟩) rfl (fun b hb => by cases hb) ad 1 k [c 0, c 1, c 2, c 3, c 4] hx rfl (news_of hc) h1 (by omega) hbig hby ?_
    intro v' w' hown hgr
    refine hK v' w' ?_ hgr
    have hown' : w'.ownsRow B 111 5 v' (0 + 1) ([] ++ [c 0, c 1, c 2, c 3, c 4]) := by
      obtain ⟨hl, h | ⟨g, cap, cur, e, hb, rest⟩⟩ := hown
      · exact ⟨hl, Or.inl h⟩
      · exact ⟨hl, Or.inr ⟨g, cap, cur, e, Nat.le_trans hB hb, rest⟩⟩
    refine row_of_owns hown' (by omega) ?_
    intro i q hi hq
    obtain rfl : i = 0 := by omega
    simpa [snoc] using news_at (c := c) hq
  · by_cases hroom : n + 1 ≤ cap
    · refine step_append_room hg s x 61 hop 111 i 5 Yba.underlying61 hi his g off n cap hs ad 1 k [c 0, c 1, c 2, c 3, c 4] hx rfl (news_of hc) h1 hroom ?_ ?_
      · intro j hj
        have := hsp (n * 5 + j) (by simp at hj; omega)
        simpa [Nat.add_assoc] using this
      · have hin := World.cell?_setCells_in g [c 0, c 1, c 2, c 3, c 4] (off + n * 5) w (by
          intro j hj
          have := (hsp (n * 5 + j) (by simp at hj; omega)).1
          simpa [Nat.add_assoc] using this)
        refine hK _ _ (Or.inr ⟨g, off, cap, rfl, hBg, ?_, hroom, hmx, ?_, ?_⟩) ?_
        · exact Nat.lt_of_lt_of_le hgl (grown_setCells g _ _ w).size
        · intro i q hi hq
          by_cases h : i < n
          · rw [World.cell?_setCells_out g _ _ _ _ (by intro _ _; left; simp; omega), hcell i q h hq]
            simp [snoc, h]
          · obtain rfl : i = n := by omega
            have := hin q (by simpa using hq)
            rw [show off + (5 * i + q) = off + i * 5 + q by omega, this]
            have e := news_at (c := c) hq
            rw [List.getElem?_eq_getElem (by simpa using hq)] at e
            simp only [Option.some.injEq] at e
            rw [e]
            simp [snoc]
        · intro j hj
          refine ⟨?_, ?_⟩
          · exact World.isSome_setCells g _ _ _ _ (hsp j hj).1
          · rw [World.frozen?_setCells]; exact (hsp j hj).2
        · exact grown_setCells g _ _ w
    · have hc63 : cap < n + 1 := by omega
      refine step_append_grows hg s x 61 hop 111 i z 5 i.bytes Yba.underlying61 hi hz his rfl hzs (by omega) (some ⟨g, off, none⟩) n cap (List.ofFn (fun t : Fin (n * 5) => f (t.val / 5) (t.val % 5))) hs (fun h => by cases h) (by simp) ?_ ad 1 k [c 0, c 1, c 2, c 3, c 4] hx rfl (news_of hc) h1 hc63 hbig hby ?_
      · intro b hb j u hu
        cases hb
        have hj : j < n * 5 := by
          have := (List.getElem?_eq_some_iff.1 hu).1
          simpa using this
        rw [List.getElem?_ofFn, dif_pos hj] at hu
        cases hu
        have := hcell (j / 5) (j % 5) (by omega) (by omega)
        rw [show 5 * (j / 5) + j % 5 = j by omega] at this
        rw [Addr.add_lit]
        exact this
      · intro v' w' hown hgr
        refine hK v' w' ?_ ⟨hgr.os, hgr.tape, hgr.output, hgr.size, fun j hj _ => hgr.block j hj (by simp)⟩
        have hown' : w'.ownsRow B 111 5 v' (n + 1) (List.ofFn (fun t : Fin (n * 5) => f (t.val / 5) (t.val % 5)) ++ [c 0, c 1, c 2, c 3, c 4]) := by
          obtain ⟨hl, h | ⟨g, cap, cur, e, hb, rest⟩⟩ := hown
          · exact ⟨hl, Or.inl h⟩
          · exact ⟨hl, Or.inr ⟨g, cap, cur, e, Nat.le_trans hB hb, rest⟩⟩
        refine row_of_owns hown' (by omega) ?_
        intro i q hi hq
        by_cases h : i < n
        · rw [List.getElem?_append_left (by simp; omega), List.getElem?_ofFn, dif_pos (by omega)]
          simp only [snoc, if_pos h]
          rw [show (5 * i + q) / 5 = i by omega, show (5 * i + q) % 5 = q by omega]
        · obtain rfl : i = n := by omega
          rw [List.getElem?_append_right (by simp; omega)]
          simp only [List.length_ofFn, snoc, Nat.lt_irrefl, if_false]
          rw [show 5 * i + q - i * 5 = q by omega]
          exact news_at hq

end Go.Proofs.Ybulkaixg.Lapse
