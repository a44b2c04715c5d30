/-
  The law: what its walk leans on.
-/
import Derived.Test.YbulkaixgLwA
import Derived.Laws.IdiomCopy
import Derived.Carry
namespace Go.Proofs.Ybulkaixg.Ord
open Go.RowKit Go.Maps Go.WideMaps Mp
set_option linter.unusedVariables false
set_option linter.unusedSimpArgs false
set_option maxRecDepth 100000

theorem put_says {D : DataW Unit} (hD : IsMap D) (k l : List UInt8) (d : DataW Unit) : (D.put (.string k) d).atKey (.string l) .nil = if l = k then d else D.atKey (.string l) .nil := by
  by_cases e : l = k
  · subst e
    rw [if_pos rfl]
    exact atKey_put_same hD (by simp [WideAt.IsKeyLit]) _ _
  · rw [if_neg e]
    exact atKey_put_other (fun h => e (Lit.string.inj h)) _ _

theorem T1.start (W : World) (Z Zr : Array Value) (n M : Nat) (Kf : Nat → ByteArray) (md hb vb : Nat → Nat) (hM : W.heap.size = M) (z6 : Z[6]? = some (.map (some M))) (z7 : Z[7]? = some (.slice none 0 0)) (hr : ∀ j, j < n → Zr[j]? = some (.pointer none)) :
    T1 W (((W.alloc (.map #[] 0)).alloc (.cells Z 109)).alloc (.cells Zr 131)) n M (M + 1) (M + 1 + 1) hb vb Kf md (.map []) 0 0 := by
  subst hM
  have s2 : ((W.alloc (.map #[] 0)).alloc (.cells Z 109)).heap.size = W.heap.size + 1 + 1 := by simp
  have cR : ∀ o, (((W.alloc (.map #[] 0)).alloc (.cells Z 109)).alloc (.cells Zr 131)).cell? ⟨W.heap.size + 1, o, none⟩ = Z[o]? := fun o => (alloc_old _ _ _ _ (by omega)).trans (alloc_new _ _ _ _ _ (by simp))
  have fR : ∀ o, (((W.alloc (.map #[] 0)).alloc (.cells Z 109)).alloc (.cells Zr 131)).frozen? ⟨W.heap.size + 1, o, none⟩ = false := fun o => (alloc_oldf _ _ _ _ (by omega)).trans (alloc_newf _ _ _ _ _ (by simp))
  have cB : ∀ o, (((W.alloc (.map #[] 0)).alloc (.cells Z 109)).alloc (.cells Zr 131)).cell? ⟨W.heap.size + 1 + 1, o, none⟩ = Zr[o]? := fun o => alloc_new _ _ _ _ _ s2.symm
  have hmap : (((W.alloc (.map #[] 0)).alloc (.cells Z 109)).alloc (.cells Zr 131)).heap[W.heap.size]? = some (.map #[] 0) := by
    rw [Below.heap_alloc _ _ _ (by omega), Below.heap_alloc _ _ _ (by simp)]
    exact heap_alloc_new W _
  refine ⟨(((Kp.refl _ W).alloc _).alloc _).alloc _, Nat.le_refl _, by omega, by omega, by simp, (cR 6).trans z6, ⟨_, (cR 7).trans z7⟩, fR 7, fun j hj => by omega, fun j hj => ⟨_, (cB j).trans (hr j hj)⟩, fun o => alloc_newf _ _ _ _ _ s2.symm, fun j hj => by omega, fun j hj => by omega, fun j k hj => by omega, ?_, fun l => rfl, fun j hj => by omega, fun j hj => by omega, fun j hj => by omega⟩
  exact ⟨#[], 0, hmap, ⟨by simp, MapKept.stamped_empty 0, by simp⟩, Nat.le_refl _, rfl⟩

/-- copy of pointers. -/
theorem run_copy1 (w : World) (ty : TypeId) (b o dLen dCap : Nat) (a : Addr) (sLen sCap : Nat) (cs : List Value) (m : Nat) (hm : m = Nat.min sLen dLen) (hn : cs.length = m)
    (hsrc : ∀ j v, cs[j]? = some v → w.cell? (a.add j) = some v) (hc : ∀ j, j < cs.length → (w.cell? ⟨b, o + j, none⟩).isSome = true) (hf : ∀ j, j < cs.length → w.frozen? ⟨b, o + j, none⟩ = false) (h1 : ∀ v ∈ cs, v.oneCell' = true) :
    (Builtin.copy_ #[103, 103] ty #[.slice (some ⟨b, o, none⟩) dLen dCap, .slice (some a) sLen sCap]).run Yba.prog w = .ok (.int .i64 m) (w.setCells b o cs) := by
  obtain ⟨i, z, hi, hz, his, _, _⟩ := info131
  have hl := run_loadCells_list (P := Yba.prog) w a cs hsrc
  have hst := run_storeCells_cells (P := Yba.prog) b o cs 0 w (by simpa using hc) (by simpa using hf) h1
  rw [hn] at hl
  simp [Builtin.copy_, run_underlying Yba.underlying103, Builtin.lenOf, Builtin.firstCells, sizeOf, typeInfo, hi, his, ← hm, hl, hst, goInt]

/-- What order finds, out of the first loop. -/
theorem T1.ldIn {W w0 w : World} {n M R B lb : Nat} {hb vb : Nat → Nat} {Kf : Nat → ByteArray} {md : Nat → Nat} {D : DataW Unit} (h : T1 W w0 n M R B hb vb Kf md D n n) (hk : Kp (fun _ => False) w0 w) (hl : w0.heap.size ≤ lb) (hlen : ∀ i, i < n → (Kf i).size ≤ maxLen) (hm : ∀ j, md j < 3)
    (l0 : w.cell? ⟨lb, 0, none⟩ = some (.pointer (some ⟨R, 0, none⟩))) (l1 : w.cell? ⟨lb, 1, none⟩ = some (.slice (some ⟨B, 0, none⟩) n n)) (lf : w.frozen? ⟨lb, 1, none⟩ = false) :
    LdIn w lb R M B n n hb Kf ttF smF D (fun i => mvf Kf md vb n (Kf i).data.toList) := by
  have h' := h.keep hk
  have hB := h.lw
  refine ⟨l0, l1, lf, h'.r6, h'.r7, h'.rf, h'.row, h'.bf, h'.lw, h'.hs, hlen, h'.map, fun i hi => h'.says _, fun i b hi e => ?_, ?_, ?_, ?_, ?_, ?_, fun i hi => ?_, h'.hj, fun i b hi e => ?_, fun i j hi hj e1 e2 e3 => ?_⟩
  · obtain ⟨j, h1, h2, rfl⟩ := mvf_some e
    exact (h'.vp j h1 h2).1
  · have := h.lB; omega
  · omega
  · have := h.lB; omega
  · have := h.lB; have := h.lR; omega
  · have := h.lB; have := h.lR; omega
  · have h1 := h.lb i hi
    have h2 := (h.hs i hi).lt
    have := h.lB
    have := h.lR
    omega
  · obtain ⟨j, h1, h2, rfl⟩ := mvf_some e
    have := (h'.vp j h1 h2).2
    omega
  · have k1 := (mvf_kept Kf md vb hb n hm h.v0 h.v1 h.hj n (Nat.le_refl _) i hi).1 e1
    have k2 := (mvf_kept Kf md vb hb n hm h.v0 h.v1 h.hj n (Nat.le_refl _) j hj).1 e2
    rcases Nat.lt_trichotomy i j with h1 | h1 | h1
    · have h3 := k1.2.2 j h1 hj e3.symm
      have h4 := k2.2.1
      omega
    · exact h1
    · have h3 := k2.2.2 i h1 hi e3
      have h4 := k1.2.1
      omega

/-- Where order has been called. -/
structure G (W w : World) (lb R B C n E : Nat) (hb ε : Nat → Nat) (Kf : Nat → ByteArray) (xb yb zb pb : Nat) (τ : Nat → Nat) : Prop where
  kp : Kp (fun _ => False) W w
  l1 : w.cell? ⟨lb, 1, none⟩ = some (.slice (some ⟨B, 0, none⟩) E n)
  lo : ∀ j, j < E → w.cell? ⟨B, j, none⟩ = some (.pointer (some ⟨hb (ε j), 0, none⟩))
  hi : ∀ j, E ≤ j → j < n → w.cell? ⟨B, j, none⟩ = some (.pointer none)
  r7 : w.cell? ⟨R, 7, none⟩ = some (.slice (some ⟨zb, 0, none⟩) ((E + 255) / 256) ((E + 255) / 256))
  cs : ∀ j, j < n → w.cell? ⟨C, j, none⟩ = some (.pointer (some ⟨hb j, 0, none⟩))
  od : Od w W.heap.size E (fun j => hb (ε j)) (fun j => Kf (ε j)) (fun j => ttF (ε j)) (fun j => smF (ε j)) xb yb zb pb ((E + 255) / 256) τ
  hj : ∀ j k, j < n → k < n → hb j = hb k → j = k
theorem G.keep {W w w' : World} {lb R B C n E : Nat} {hb ε : Nat → Nat} {Kf : Nat → ByteArray} {xb yb zb pb : Nat} {τ : Nat → Nat} (h : G W w lb R B C n E hb ε Kf xb yb zb pb τ) (hk : Kp (fun _ => False) w w') : G W w' lb R B C n E hb ε Kf xb yb zb pb τ :=
  ⟨h.kp.trans hk, hk.cell id h.l1, fun j hj => hk.cell id (h.lo j hj), fun j h1 h2 => hk.cell id (h.hi j h1 h2), hk.cell id h.r7, fun j hj => hk.cell id (h.cs j hj), h.od.keep hk (fun _ _ => id) (fun _ _ => id), h.hj⟩

theorem PRow.at_ {w : World} {la : Option Addr} {lc k : Nat} {f : Nat → Value} (h : PRow w (.slice la k lc) k f) {j : Nat} (hj : j < k) : ∃ b, la = some ⟨b, 0, none⟩ ∧ w.cell? ⟨b, j, none⟩ = some (f j) := by
  obtain ⟨a, c, e, hc⟩ := h.slice
  cases e
  exact hc j hj
theorem neq131_same (b : Nat) (w : World) : (binOp .neq 131 (.pointer (some ⟨b, 0, none⟩)) (.pointer (some ⟨b, 0, none⟩))).run Yba.prog w = .ok (.bool false) w := by
  have hi : (Yba.prog.info? 140).isSome = true := by kernel_rfl
  obtain ⟨j, hj⟩ := Option.isSome_iff_exists.1 hi
  have h : ∀ d : Nat, (Op.equalIn (d + 1) 131 (.pointer (some ⟨b, 0, none⟩)) (.pointer (some ⟨b, 0, none⟩))).run Yba.prog w = .ok true w := fun d => by
    simp [Op.equalIn, run_underlying Yba.underlying131, sizeOf, typeInfo, hj, run_sameAddr_same]
  simp only [binOp]
  simp [Op.equal, Op.maxDepth, h 9999]
theorem eql131_same (b : Nat) (w : World) : (binOp .eql 131 (.pointer (some ⟨b, 0, none⟩)) (.pointer (some ⟨b, 0, none⟩))).run Yba.prog w = .ok (.bool true) w := by
  have hi : (Yba.prog.info? 140).isSome = true := by kernel_rfl
  obtain ⟨j, hj⟩ := Option.isSome_iff_exists.1 hi
  exact run_eql_ptr_same w ⟨b, 0, none⟩ Yba.underlying131 hj
theorem neq138_same (b : Nat) (w : World) : (binOp .neq 138 (.pointer (some ⟨b, 0, none⟩)) (.pointer (some ⟨b, 0, none⟩))).run Yba.prog w = .ok (.bool false) w := by
  have hi : (Yba.prog.info? 150).isSome = true := by kernel_rfl
  obtain ⟨j, hj⟩ := Option.isSome_iff_exists.1 hi
  have h : ∀ d : Nat, (Op.equalIn (d + 1) 138 (.pointer (some ⟨b, 0, none⟩)) (.pointer (some ⟨b, 0, none⟩))).run Yba.prog w = .ok true w := fun d => by
    simp [Op.equalIn, run_underlying Yba.underlying138, sizeOf, typeInfo, hj, run_sameAddr_same]
  simp only [binOp]
  simp [Op.equal, Op.maxDepth, h 9999]
theorem neq131_nil (w : World) : (binOp .neq 131 (.pointer none) (.pointer none)).run Yba.prog w = .ok (.bool false) w := neq131 none none w (fun _ h => by cases h) (fun _ h => by cases h)
theorem eql131_some (b : Nat) (w : World) : (binOp .eql 131 (.pointer (some ⟨b, 0, none⟩)) (.pointer none)).run Yba.prog w = .ok (.bool false) w := by
  have h : ∀ d : Nat, (Op.equalIn (d + 1) 131 (.pointer (some ⟨b, 0, none⟩)) (.pointer none)).run Yba.prog w = .ok false w := fun d => by
    simp [Op.equalIn, run_underlying Yba.underlying131]
  simp only [binOp]
  simp [Op.equal, Op.maxDepth, h 9999]
theorem eql138_some (b : Nat) (w : World) : (binOp .eql 138 (.pointer (some ⟨b, 0, none⟩)) (.pointer none)).run Yba.prog w = .ok (.bool false) w := by
  have h : ∀ d : Nat, (Op.equalIn (d + 1) 138 (.pointer (some ⟨b, 0, none⟩)) (.pointer none)).run Yba.prog w = .ok false w := fun d => by
    simp [Op.equalIn, run_underlying Yba.underlying138]
  simp only [binOp]
  simp [Op.equal, Op.maxDepth, h 9999]

theorem leq_no (a b : ByteArray) (h : b.data.toList < a.data.toList) (w : World) : (binOp .leq 9 (.string a) (.string b)).run Yba.prog w = .ok (.bool false) w := by
  have h1 : Op.bytesLess a.toList b.toList = false := by
    rw [bytesLess_eq, ByteArray.toList_eq, ByteArray.toList_eq]
    exact decide_eq_false (fun h' => lt_irr _ (lt_trans' h' h))
  have h2 : (a.toList == b.toList) = false := by
    rw [ByteArray.toList_eq, ByteArray.toList_eq]
    have : ¬ (a.data.toList = b.data.toList) := fun h' => by rw [h'] at h; exact lt_irr _ h
    simpa using this
  simp [binOp, Op.stringOp, h1, h2]

theorem built109 (k : Nat) : ∃ Z : Array Value, (∀ w, (Instr.build 109 #[(1, .map (some k))]).run Yba.prog w = .ok (.agg Z) w) ∧ Z.size = 110 ∧ Z[6]? = some (.map (some k)) ∧ Z[7]? = some (.slice none 0 0) := by
  refine ⟨Yba.zeroCells109.setIfInBounds 6 (.map (some k)), fun w => ?_, ?_, ?_, ?_⟩
  all_goals kernel_rfl

theorem wpList_build {P : Program} {w : World} {ops : Array Oper} {rest : List Oper} {o : Oper} {a : Act} {Q : Exit → Act → World → Prop} (hg : o.guard = none) (t : TypeId) (parts : Array (Nat × Operand)) (v : Value) (hop : o.op = Op.build t parts)
    (hrun : (Instr.build t (parts.map fun (i, x) => (i, a.eval x))).run P w = .ok v w) (hK : wpList P ops Q rest (a.put o.dst v) w) : wpList P ops Q (o :: rest) a w := by
  refine wpList_plain hg fun K hK' => ?_
  unfold Oper.wp
  simp [execOp, hop, hrun, Result.andThen]
  exact hK' _ _ hK

end Go.Proofs.Ybulkaixg.Ord
