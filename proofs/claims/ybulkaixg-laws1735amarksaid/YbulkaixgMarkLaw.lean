/-
  THE WALK OF replica.LawS1735AMark (4), out of the contracts of its callees.
-/
import Derived.Test.YbulkaixgRel
import Derived.LaidEqlPtr
namespace Go.Proofs.Ybulkaixg.Marks
open Go.RowKit Go.Maps Go.WideMaps Go.RwLone Cmp Mp
set_option linter.unusedVariables false
set_option linter.unusedSimpArgs false
set_option maxRecDepth 100000
attribute [local go_sem ↓] Go.wp_at_zero Go.wp_at_succ

theorem owns_empty {w : World} {b : Nat} (h : w.heap[b]? = some (.map #[] 0)) (kt : TypeId) (Rd : Value → Option (DataW Unit × List MemPlace)) : w.ownsMap Yba.prog kt Rd b 0 (.map []) :=
  ⟨#[], 0, h, ⟨by simp, MapKept.stamped_empty 0, by simp⟩, Nat.le_refl _, rfl⟩

theorem Fr.under {bs : List Nat} {w w' : World} {B : Nat} (h : Fr bs w w') (hb : ∀ b, b ∈ bs → B ≤ b) (hB : B ≤ w.heap.size) : Below B w w' :=
  ⟨h.os, h.tape, h.output, h.size, fun j hj => h.block j (Nat.lt_of_lt_of_le hj hB) (fun e => Nat.lt_irrefl _ (Nat.lt_of_lt_of_le hj (hb j e)))⟩

/-- A block of two cells: a version. -/
structure V2 (w : World) (b : Nat) (c : Int) (m : ByteArray) : Prop where
  c0 : w.cell? ⟨b, 0, none⟩ = some (.int .u64 c)
  c1 : w.cell? ⟨b, 1, none⟩ = some (.string m)
theorem V2.keep {bs : List Nat} {w w' : World} {b : Nat} {c : Int} {m : ByteArray} (h : V2 w b c m) (hf : Fr bs w w') (hb : b ∉ bs) : V2 w' b c m := ⟨hf.cell hb h.c0, hf.cell hb h.c1⟩
/-- A block of three cells: a ticket. -/
structure T3 (w : World) (b : Nat) (s c : Int) (m : ByteArray) : Prop where
  c0 : w.cell? ⟨b, 0, none⟩ = some (.int .i64 s)
  c1 : w.cell? ⟨b, 1, none⟩ = some (.int .u64 c)
  c2 : w.cell? ⟨b, 2, none⟩ = some (.string m)
theorem T3.keep {bs : List Nat} {w w' : World} {b : Nat} {s c : Int} {m : ByteArray} (h : T3 w b s c m) (hf : Fr bs w w') (hb : b ∉ bs) : T3 w' b s c m := ⟨hf.cell hb h.c0, hf.cell hb h.c1, hf.cell hb h.c2⟩

theorem eql123 (m : Nat) (w : World) : (binOp .eql 123 (.pointer (some ⟨m, 0, none⟩)) (.pointer (some ⟨m, 0, none⟩))).run Yba.prog w = .ok (.bool true) w := by
  have h : (Yba.prog.info? 128).isSome = true := by kernel_rfl
  obtain ⟨j, hj⟩ := Option.isSome_iff_exists.1 h
  exact run_eql_ptr_same (P := Yba.prog) w ⟨m, 0, none⟩ (by kernel_rfl : Yba.prog.underlying 123 = some (.pointer 128)) hj

theorem xor1 (a : Int) : bits .xor .i64 a 1 ≠ a := by
  intro h
  have hd : IntKind.i64.wrap ((BitVec.ofInt 64 a ^^^ BitVec.ofInt 64 1).toNat : Int) = a := h
  have e : (BitVec.ofInt 64 a).toNat = (BitVec.ofInt 64 a ^^^ BitVec.ofInt 64 1).toNat := by
    generalize hn : (BitVec.ofInt 64 a ^^^ BitVec.ofInt 64 1).toNat = n at hd ⊢
    have hlt : n < 2 ^ 64 := by rw [← hn]; exact BitVec.isLt _
    have hw : IntKind.i64.wrap (n : Int) = n ∨ IntKind.i64.wrap (n : Int) = n - 18446744073709551616 := by
      simp only [IntKind.wrap, IntKind.bits, IntKind.signed, Bool.true_and, decide_eq_true_eq, ge_iff_le]
      split <;> omega
    rw [← hd, BitVec.toNat_ofInt]
    rcases hw with hw | hw <;> rw [hw] <;> omega
  have e2 : BitVec.ofInt 64 a = BitVec.ofInt 64 a ^^^ BitVec.ofInt 64 1 := BitVec.eq_of_toNat_eq e
  have e3 := congrArg (fun x => x.getLsbD 0) e2
  simp at e3

theorem plain_bool_inv {v : Value} {b : Bool} {ps : List MemPlace} (h : plainElem (H := Unit) Yba.prog 4 v = some (.lit (.bool b), ps)) : v = .bool b := by
  unfold plainElem at h
  rw [Yba.underlying4] at h
  cases v <;> simp at h
  simp [h]

theorem look_rel {W : World} {L n : Nat} {D : DataW Unit} {key bm : ByteArray} {since bc : Int} {b : Bool} (hl : W.ownsMap Yba.prog 37 (plainElem (H := Unit) Yba.prog 4) L n D) (hD : D.atKey (relK key since bc bm) (.lit (.bool false)) = .lit (.bool b))
    (hkey : key.size ≤ maxLen) (ws : (Lit.int .i64 since).wf = true) (wb : (Lit.int .u64 bc).wf = true) (hbm : bm.size ≤ maxLen) :
    ∀ nq, (Instr.lookup 60 (.map (some L)) (relV key since bc bm) false).run Yba.prog (W.drewN nq) = .ok (.bool b) (W.drewN nq) := by
  intro nq
  obtain ⟨v, ps, hrun, hv⟩ := ((Fr.drewN (bs := []) W nq).map (by simp) hl).lookup law37 Yba.underlying60 (zero4 _) (plainElem_bool Yba.underlying4 false) (key37 key since bc bm hkey ws wb hbm)
  rw [hD] at hv
  rw [hrun, plain_bool_inv hv]

set_option maxHeartbeats 3200000 in
theorem law_mark (key : ByteArray) (since bc lc pc uc now : Int) (bm lm pm um : ByteArray) (stored same : Bool) (w : World) (hkey : key.size ≤ maxLen) (ws : (Lit.int .i64 since).wf = true) (wb : (Lit.int .u64 bc).wf = true) (hbm : bm.size ≤ maxLen) :
    Calls Yba.prog 4 #[.string key, .int .i64 since, .agg #[.int .u64 bc, .string bm], .agg #[.int .u64 lc, .string lm], .agg #[.int .u64 pc, .string pm], .agg #[.int .u64 uc, .string um], .bool stored, .bool same, .int .i64 now] w fun e w' =>
      e = .returned (.bool true) ∧ Below w.heap.size w w' := by
  go_enter Yba.func4, Yba.ntmps4
  go_wp2_with fail
  obtain ⟨w5, hw5⟩ : ∃ w5, w5 = ((((w.alloc (.cells #[.int .u64 bc, .string bm] 119)).alloc (.cells #[.int .u64 lc, .string lm] 119)).alloc (.cells #[.int .u64 pc, .string pm] 119)).alloc (.cells #[.int .u64 uc, .string um] 119)).alloc (.cells #[.int .i64 now, .int .i64 0] 27) := ⟨_, rfl⟩
  rw [← hw5]
  obtain ⟨B, hB⟩ : ∃ B, B = w.heap.size := ⟨_, rfl⟩
  rw [← hB]
  have bel5 : Below B w w5 := by
    rw [hw5, hB]
    exact (((((Below.refl _ _).alloc (Nat.le_refl _) _).alloc (by simp) _).alloc (by simp; omega) _).alloc (by simp; omega) _).alloc (by simp; omega) _
  have s5 : w5.heap.size = B + 5 := by rw [hw5, hB]; simp
  have v0 : V2 w5 B bc bm := by rw [hw5, hB]; exact ⟨by rw [World.cell?_alloc_past _ _ _ (by simp; try omega)]; rw [World.cell?_alloc_past _ _ _ (by simp; try omega)]; rw [World.cell?_alloc_past _ _ _ (by simp; try omega)]; rw [World.cell?_alloc_past _ _ _ (by simp; try omega)]; rw [World.cell?_alloc_at _ _ _ _ (by simp)]; rfl, by rw [World.cell?_alloc_past _ _ _ (by simp; try omega)]; rw [World.cell?_alloc_past _ _ _ (by simp; try omega)]; rw [World.cell?_alloc_past _ _ _ (by simp; try omega)]; rw [World.cell?_alloc_past _ _ _ (by simp; try omega)]; rw [World.cell?_alloc_at _ _ _ _ (by simp)]; rfl⟩
  have v1 : V2 w5 (B + 1) lc lm := by rw [hw5, hB]; exact ⟨by rw [World.cell?_alloc_past _ _ _ (by simp; try omega)]; rw [World.cell?_alloc_past _ _ _ (by simp; try omega)]; rw [World.cell?_alloc_past _ _ _ (by simp; try omega)]; rw [World.cell?_alloc_at _ _ _ _ (by simp)]; rfl, by rw [World.cell?_alloc_past _ _ _ (by simp; try omega)]; rw [World.cell?_alloc_past _ _ _ (by simp; try omega)]; rw [World.cell?_alloc_past _ _ _ (by simp; try omega)]; rw [World.cell?_alloc_at _ _ _ _ (by simp)]; rfl⟩
  have v2 : V2 w5 (B + 1 + 1) pc pm := by rw [hw5, hB]; exact ⟨by rw [World.cell?_alloc_past _ _ _ (by simp; try omega)]; rw [World.cell?_alloc_past _ _ _ (by simp; try omega)]; rw [World.cell?_alloc_at _ _ _ _ (by simp)]; rfl, by rw [World.cell?_alloc_past _ _ _ (by simp; try omega)]; rw [World.cell?_alloc_past _ _ _ (by simp; try omega)]; rw [World.cell?_alloc_at _ _ _ _ (by simp)]; rfl⟩
  have v3 : V2 w5 (B + 1 + 1 + 1) uc um := by rw [hw5, hB]; exact ⟨by rw [World.cell?_alloc_past _ _ _ (by simp; try omega)]; rw [World.cell?_alloc_at _ _ _ _ (by simp)]; rfl, by rw [World.cell?_alloc_past _ _ _ (by simp; try omega)]; rw [World.cell?_alloc_at _ _ _ _ (by simp)]; rfl⟩
  have x0 : w5.cell? ⟨B + 1 + 1 + 1 + 1, 0, none⟩ = some (.int .i64 now) := by rw [hw5, hB]; rw [World.cell?_alloc_at _ _ _ _ (by simp)]; rfl
  have x1 : w5.cell? ⟨B + 1 + 1 + 1 + 1, 1, none⟩ = some (.int .i64 0) := by rw [hw5, hB]; rw [World.cell?_alloc_at _ _ _ _ (by simp)]; rfl
  have xf : w5.frozen? ⟨B + 1 + 1 + 1 + 1, 1, none⟩ = false := by rw [hw5, hB]; exact World.frozen?_alloc_at _ _ _ _ (by simp)
  obtain ⟨C, hC⟩ : ∃ C, C = B + 1 + 1 + 1 + 1 := ⟨_, rfl⟩
  rw [← hC] at x0 x1 xf ⊢
  clear hw5
  refine (new_replica C w5).mono ?_
  rintro e w6 ⟨rfl, b56, s6, hR6, hK6, hM6, hL6⟩
  obtain ⟨R, hR⟩ : ∃ R, R = w5.heap.size + 9 := ⟨_, rfl⟩
  obtain ⟨K, hK⟩ : ∃ K, K = w5.heap.size := ⟨_, rfl⟩
  obtain ⟨M, hM⟩ : ∃ M, M = w5.heap.size + 1 := ⟨_, rfl⟩
  obtain ⟨L, hL⟩ : ∃ L, L = w5.heap.size + 2 := ⟨_, rfl⟩
  rw [← hR, ← hM, ← hL, ← hK] at hR6
  rw [← hK] at hK6
  rw [← hM] at hM6
  rw [← hL] at hL6
  rw [← hR]
  have o1 : B ≤ C ∧ C < K ∧ K < M ∧ M < L ∧ L < R ∧ R < w6.heap.size := by omega
  have f56 : Fr [] w5 w6 := Fr.below b56
  have bel6 : Below B w w6 := bel5.trans (b56.mono (by omega))
  have v0 := v0.keep f56 (by simp)
  have v1 := v1.keep f56 (by simp)
  have v2 := v2.keep f56 (by simp)
  have v3 := v3.keep f56 (by simp)
  have xf := (f56.frozen (b := C) (o := 1) (by simp) (block_lt_of_cell x0)).trans xf
  have x0 := f56.cell (by simp) x0
  have x1 := f56.cell (by simp) x1
  have oB : B + 3 < C := by omega
  have hKo := owns_empty hK6 9 ptrE
  have hMo := owns_empty hM6 9 ptrE
  have hLo := owns_empty hL6 37 (plainElem Yba.prog 4)
  have HB := (show Hid _ from hB)
  clear hR hK hM hL hC s5 s6 hB b56 f56 bel5 hK6 hM6 hL6
  have y0 := v0.c0
  have y1 := v0.c1
  go_wp2_with fail
  refine (av_any bc bm w6).mono ?_
  rintro e w7 ⟨rfl, oa, ob, hw7⟩
  have f67 : Fr [] w6 w7 := by rw [hw7]; exact (Fr.alloc _ _).trans (Fr.alloc _ _)
  have bel7 : Below B w w7 := bel6.trans (f67.under (by simp) (by omega))
  have z67 := f67.size
  have v1 := v1.keep f67 (by simp)
  have v2 := v2.keep f67 (by simp)
  have v3 := v3.keep f67 (by simp)
  have hR7 := hR6.keep f67 (by simp)
  have xf := (f67.frozen (b := C) (o := 1) (by simp) (block_lt_of_cell x0)).trans xf
  have x0 := f67.cell (by simp) x0
  have x1 := f67.cell (by simp) x1
  have hKo := f67.map (by simp) hKo
  have hMo := f67.map (by simp) hMo
  have hLo := f67.map (by simp) hLo
  have l7 : R < w7.heap.size := by omega
  clear hw7 y0 y1 f67 z67 hR6 bel6 v0
  have y2 := v1.c0
  have y3 := v1.c1
  have l1 : B + 1 < w7.heap.size := block_lt_of_cell y2
  go_wp2_with fail
  obtain ⟨T, hT⟩ : ∃ T, T = w7.heap.size := ⟨_, rfl⟩
  obtain ⟨w8, hw8⟩ : ∃ w8, w8 = w7.alloc (.cells #[.int .i64 since, .int .u64 bc, .string bm] 33) := ⟨_, rfl⟩
  rw [← hw8, ← hT]
  have t8 : T3 w8 T since bc bm := by rw [hw8, hT]; exact ⟨by simp, by simp, by simp⟩
  have f78 : Fr [] w7 w8 := by rw [hw8]; exact Fr.alloc _ _
  have oT : R < T ∧ T < w8.heap.size := by rw [hw8, hT]; exact ⟨l7, by simp⟩
  clear hw8 hT y2 y3 l1
  refine (av_any lc lm w8).mono ?_
  rintro e w9 ⟨rfl, oa, ob, hw9⟩
  have f89 : Fr [] w8 w9 := by rw [hw9]; exact (Fr.alloc _ _).trans (Fr.alloc _ _)
  have f79 : Fr [] w7 w9 := f78.trans f89
  have z9 := f89.size
  have bel9 : Below B w w9 := bel7.trans (f79.under (by simp) (by omega))
  have t9 := t8.keep f89 (by simp)
  have v2 := v2.keep f79 (by simp)
  have v3 := v3.keep f79 (by simp)
  have hR9 := hR7.keep f79 (by simp)
  have xf := (f79.frozen (b := C) (o := 1) (by simp) (block_lt_of_cell x0)).trans xf
  have x0 := f79.cell (by simp) x0
  have x1 := f79.cell (by simp) x1
  have hKo := f79.map (by simp) hKo
  have hMo := f79.map (by simp) hMo
  have hLo := f79.map (by simp) hLo
  have l9 : T < w9.heap.size := by omega
  clear hw9 f78 f89 f79 z9 t8 hR7 bel7 v1
  have y2 := v2.c0
  have y3 := v2.c1
  have l1 : B + 1 + 1 < w9.heap.size := block_lt_of_cell y2
  go_wp2_with fail
  obtain ⟨Bb, hBb⟩ : ∃ Bb, Bb = w9.heap.size := ⟨_, rfl⟩
  obtain ⟨w10, hw10⟩ : ∃ w10, w10 = w9.alloc (.cells #[.int .u64 lc, .string lm] 31) := ⟨_, rfl⟩
  rw [← hw10, ← hBb]
  have b10 : V2 w10 Bb lc lm := by rw [hw10, hBb]; exact ⟨by simp, by simp⟩
  have f910 : Fr [] w9 w10 := by rw [hw10]; exact Fr.alloc _ _
  have oBb : T < Bb ∧ Bb < w10.heap.size := by rw [hw10, hBb]; exact ⟨l9, by simp⟩
  clear hw10 hBb y2 y3 l1
  refine (av_any pc pm w10).mono ?_
  rintro e w11 ⟨rfl, oa, ob, hw11⟩
  have f1011 : Fr [] w10 w11 := by rw [hw11]; exact (Fr.alloc _ _).trans (Fr.alloc _ _)
  have f911 : Fr [] w9 w11 := f910.trans f1011
  have z11 := f1011.size
  have bel11 : Below B w w11 := bel9.trans (f911.under (by simp) (by omega))
  have t11 := t9.keep f911 (by simp)
  have b11 := b10.keep f1011 (by simp)
  have v3 := v3.keep f911 (by simp)
  have hR11 := hR9.keep f911 (by simp)
  have xf := (f911.frozen (b := C) (o := 1) (by simp) (block_lt_of_cell x0)).trans xf
  have x0 := f911.cell (by simp) x0
  have x1 := f911.cell (by simp) x1
  have hKo := f911.map (by simp) hKo
  have hMo := f911.map (by simp) hMo
  have hLo := f911.map (by simp) hLo
  have l11 : Bb < w11.heap.size := by omega
  clear hw11 f910 f1011 f911 z11 t9 b10 hR9 bel9 v2
  have y2 := v3.c0
  have y3 := v3.c1
  have l1 : B + 1 + 1 + 1 < w11.heap.size := block_lt_of_cell y2
  go_wp2_with fail
  obtain ⟨Pb, hPb⟩ : ∃ Pb, Pb = w11.heap.size := ⟨_, rfl⟩
  obtain ⟨w12, hw12⟩ : ∃ w12, w12 = w11.alloc (.cells #[.int .u64 pc, .string pm] 31) := ⟨_, rfl⟩
  rw [← hw12, ← hPb]
  have p12 : V2 w12 Pb pc pm := by rw [hw12, hPb]; exact ⟨by simp, by simp⟩
  have f1112 : Fr [] w11 w12 := by rw [hw12]; exact Fr.alloc _ _
  have oPb : Bb < Pb ∧ Pb < w12.heap.size := by rw [hw12, hPb]; exact ⟨l11, by simp⟩
  clear hw12 hPb y2 y3 l1
  refine (av_any uc um w12).mono ?_
  rintro e w13 ⟨rfl, oa, ob, hw13⟩
  have f1213 : Fr [] w12 w13 := by rw [hw13]; exact (Fr.alloc _ _).trans (Fr.alloc _ _)
  have f1113 : Fr [] w11 w13 := f1112.trans f1213
  have z13 := f1213.size
  have bel13 : Below B w w13 := bel11.trans (f1113.under (by simp) (by omega))
  have t13 := t11.keep f1113 (by simp)
  have b13 := b11.keep f1113 (by simp)
  have p13 := p12.keep f1213 (by simp)
  have hR13 := hR11.keep f1113 (by simp)
  have xf := (f1113.frozen (b := C) (o := 1) (by simp) (block_lt_of_cell x0)).trans xf
  have x0 := f1113.cell (by simp) x0
  have x1 := f1113.cell (by simp) x1
  have hKo := f1113.map (by simp) hKo
  have hMo := f1113.map (by simp) hMo
  have hLo := f1113.map (by simp) hLo
  have l13 : Pb < w13.heap.size := by omega
  clear hw13 f1112 f1213 f1113 z13 t11 b11 p12 hR11 bel11 v3
  go_wp2_with fail
  obtain ⟨Ub, hUb⟩ : ∃ Ub, Ub = w13.heap.size := ⟨_, rfl⟩
  obtain ⟨w14, hw14⟩ : ∃ w14, w14 = w13.alloc (.cells #[.int .u64 uc, .string um] 31) := ⟨_, rfl⟩
  rw [← hw14, ← hUb]
  have u14 : V2 w14 Ub uc um := by rw [hw14, hUb]; exact ⟨by simp, by simp⟩
  have f1314 : Fr [] w13 w14 := by rw [hw14]; exact Fr.alloc _ _
  have oUb : Pb < Ub ∧ Ub < w14.heap.size := by rw [hw14, hUb]; exact ⟨l13, by simp⟩
  clear hw14 hUb
  have bel14 : Below B w w14 := bel13.trans (f1314.under (by simp) (by omega))
  have t14 := t13.keep f1314 (by simp)
  have b14 := b13.keep f1314 (by simp)
  have p14 := p13.keep f1314 (by simp)
  have hR14 := hR13.keep f1314 (by simp)
  have xf := (f1314.frozen (b := C) (o := 1) (by simp) (block_lt_of_cell x0)).trans xf
  have x0 := f1314.cell (by simp) x0
  have x1 := f1314.cell (by simp) x1
  have hKo := f1314.map (by simp) hKo
  have hMo := f1314.map (by simp) hMo
  have hLo := f1314.map (by simp) hLo
  clear f1314 t13 b13 p13 hR13 bel13
  refine (marks_new R M 0 (.map []) key w14 hkey hR14.c15 hMo (by omega) rfl).mono ?_
  rintro e w15 ⟨rfl, g15, hMo15⟩
  obtain ⟨k, hk⟩ : ∃ k, k = w14.heap.size := ⟨_, rfl⟩
  rw [← hk] at hMo15 ⊢
  have fa : Fr [M] w14 (w14.alloc (.cells km0 126)) := Fr.alloc _ _
  have fb : Fr [M] (w14.alloc (.cells km0 126)) w15 := Fr.grown g15 (by simp)
  have f1415 : Fr [M] w14 w15 := fa.trans fb
  have z15 := fb.size
  have z15' : k < w15.heap.size := by have := z15; simp at this; omega
  have oM : ∀ x, M < x → x ∉ [M] := by intro x hx; simp; omega
  have oM' : ∀ x, x < M → x ∉ [M] := by intro x hx; simp; omega
  have ok : Ub < k := by omega
  have hK15 : KM w15 k (.pointer none) 0 ⟨#[]⟩ 0 ⟨#[]⟩ := by
    refine KM.keep ?_ fb (oM k (by omega))
    rw [hk]
    exact ⟨by simp [km0], by simp [km0], by simp [km0], by simp [km0], by simp [km0], by simp [km0], World.frozen?_alloc_at _ _ _ _ rfl, World.frozen?_alloc_at _ _ _ _ rfl, World.frozen?_alloc_at _ _ _ _ rfl, World.frozen?_alloc_at _ _ _ _ rfl, World.frozen?_alloc_at _ _ _ _ rfl⟩
  have bel15 : Below B w w15 := bel14.trans (f1415.under (by intro b hb; rw [List.mem_singleton] at hb; omega) (by omega))
  have t15 := t14.keep f1415 (oM _ (by omega))
  have b15 := b14.keep f1415 (oM _ (by omega))
  have p15 := p14.keep f1415 (oM _ (by omega))
  have u15 := u14.keep f1415 (oM _ (by omega))
  have hR15 := hR14.keep f1415 (oM _ (by omega))
  have xf := (f1415.frozen (b := C) (o := 1) (oM' _ (by omega)) (block_lt_of_cell x0)).trans xf
  have x0 := f1415.cell (oM' _ (by omega)) x0
  have x1 := f1415.cell (oM' _ (by omega)) x1
  have hKo := f1415.map (oM' _ (by omega)) hKo
  have hLo := f1415.map (oM _ (by omega)) hLo
  clear hk fa fb f1415 z15 g15 hMo t14 b14 p14 u14 hR14 bel14 oM oM'
  have nU : Ub ≠ k := by omega
  have nT : T ≠ k := by omega
  have y0 := p15.c0
  have y1 := p15.c1
  have y2 := u15.c0
  have y3 := u15.c1
  have y4 := t15.c0
  have y5 := t15.c1
  have y6 := t15.c2
  have k1 := hK15.c1
  have k2 := hK15.c2
  have k3 := hK15.c3
  have k4 := hK15.c4
  have kf1 := hK15.f1
  have kf2 := hK15.f2
  have kf3 := hK15.f3
  have kf4 := hK15.f4
  go_upto_if 59 with fail
  obtain ⟨wa, hwa⟩ : ∃ wa, wa = (((w15.setCell ⟨k, 1, none⟩ (.int .u64 pc)).setCell ⟨k, 2, none⟩ (.string pm)).setCell ⟨k, 3, none⟩ (.int .u64 uc)).setCell ⟨k, 4, none⟩ (.string um) := ⟨_, rfl⟩
  obtain ⟨Hb, hHb⟩ : ∃ Hb, Hb = w15.heap.size := ⟨_, rfl⟩
  obtain ⟨w16, hw16⟩ : ∃ w16, w16 = wa.alloc (.cells #[.int .i64 since, .int .u64 bc, .string bm] 33) := ⟨_, rfl⟩
  rw [← hwa, ← hw16, ← hHb]
  have hsa : wa.heap.size = Hb := by rw [hwa, hHb]; simp
  have f15a : Fr [k] w15 wa := by rw [hwa]; exact (((Fr.set _ (by simp) _).trans (Fr.set _ (by simp) _)).trans (Fr.set _ (by simp) _)).trans (Fr.set _ (by simp) _)
  have fa16 : Fr [k] wa w16 := by rw [hw16]; exact Fr.alloc _ _
  have hKa : KM wa k (.pointer none) pc pm uc um := by rw [hwa]; exact (hK15.setP pc pm).setU uc um
  have hK16 : KM w16 k (.pointer none) pc pm uc um := hKa.keep (bs := []) (by rw [hw16]; exact Fr.alloc _ _) (by simp)
  have h16 : T3 w16 Hb since bc bm := by rw [hw16, ← hsa]; exact ⟨by simp, by simp, by simp⟩
  have hf0 : w16.frozen? ⟨Hb, 0, none⟩ = false := by rw [hw16]; exact World.frozen?_alloc_at _ _ _ _ hsa.symm
  have hf1 : w16.frozen? ⟨Hb, 1, none⟩ = false := by rw [hw16]; exact World.frozen?_alloc_at _ _ _ _ hsa.symm
  have hf2 : w16.frozen? ⟨Hb, 2, none⟩ = false := by rw [hw16]; exact World.frozen?_alloc_at _ _ _ _ hsa.symm
  have f1516 : Fr [k] w15 w16 := f15a.trans fa16
  have z16 : Hb < w16.heap.size := block_lt_of_cell h16.c0
  have oH : k < Hb := by omega
  have ok' : ∀ x, x < k → x ∉ [k] := by intro x hx; simp; omega
  have bel16 : Below B w w16 := bel15.trans (f1516.under (by intro b hb; rw [List.mem_singleton] at hb; omega) (by omega))
  have t16 := t15.keep f1516 (ok' _ (by omega))
  have b16 := b15.keep f1516 (ok' _ (by omega))
  have p16 := p15.keep f1516 (ok' _ (by omega))
  have u16 := u15.keep f1516 (ok' _ (by omega))
  have hR16 := hR15.keep f1516 (ok' _ (by omega))
  have xf := (f1516.frozen (b := C) (o := 1) (ok' _ (by omega)) (block_lt_of_cell x0)).trans xf
  have x0 := f1516.cell (ok' _ (by omega)) x0
  have x1 := f1516.cell (ok' _ (by omega)) x1
  have hKo := f1516.map (ok' _ (by omega)) hKo
  have hLo := f1516.map (ok' _ (by omega)) hLo
  have hMo := f1516.map (ok' _ (by omega)) hMo15
  clear hwa hw16 hHb hsa f15a fa16 hKa f1516 bel15 t15 b15 p15 u15 hR15 hMo15 hK15 ok' y0 y1 y2 y3 y4 y5 y6 k1 k2 k3 k4 kf1 kf2 kf3 kf4 z15'
  go_cut [] from 60 to 64 (fun wx => ∃ s', T3 wx Hb s' bc bm ∧ Fr [Hb] w16 wx ∧ ((same = true ∧ s' = since) ∨ (same = false ∧ s' ≠ since)))
  case first =>
    have y4 := t16.c0
    have y5 := t16.c1
    have y6 := t16.c2
    have z0 := h16.c0
    have z1 := h16.c1
    have z2 := h16.c2
    have nHT : T ≠ Hb := by omega
    cases same with
    | true =>
      go_wp2
      go_meet
      exact ⟨_, h16, Fr.refl _ _, Or.inl ⟨trivial, rfl⟩⟩
    | false =>
      go_wp2
      go_meet
      refine ⟨_, ⟨?_, ?_, ?_⟩, ((Fr.set _ (by simp) _).trans (Fr.set _ (by simp) _)).trans (Fr.set _ (by simp) _), Or.inr ⟨trivial, xor1 since⟩⟩
      · exact (cset_ne _ _ _ _ _ _ (by omega)).trans ((cset_ne _ _ _ _ _ _ (by omega)).trans (World.cell?_setCell_same w16 _ _ z0))
      · exact (cset_ne _ _ _ _ _ _ (by omega)).trans (World.cell?_setCell_same _ _ _ ((cset_ne _ _ _ _ _ _ (by omega)).trans z1))
      · exact World.cell?_setCell_same _ _ _ ((cset_ne _ _ _ _ _ _ (by omega)).trans ((cset_ne _ _ _ _ _ _ (by omega)).trans z2))
  case rest =>
    obtain ⟨s', h17, f1617, hsm⟩ := hcut
    have oH' : ∀ x, x < Hb → x ∉ [Hb] := by intro x hx; simp; omega
    have bel17 : Below B w wc := bel16.trans (f1617.under (by intro b hb; rw [List.mem_singleton] at hb; omega) (by omega))
    have t17 := t16.keep f1617 (oH' _ (by omega))
    have b17 := b16.keep f1617 (oH' _ (by omega))
    have p17 := p16.keep f1617 (oH' _ (by omega))
    have u17 := u16.keep f1617 (oH' _ (by omega))
    have hK17 := hK16.keep f1617 (oH' _ (by omega))
    have hR17 := hR16.keep f1617 (oH' _ (by omega))
    have xf := (f1617.frozen (b := C) (o := 1) (oH' _ (by omega)) (block_lt_of_cell x0)).trans xf
    have x0 := f1617.cell (oH' _ (by omega)) x0
    have x1 := f1617.cell (oH' _ (by omega)) x1
    have hKo := f1617.map (oH' _ (by omega)) hKo
    have hLo := f1617.map (oH' _ (by omega)) hLo
    have hMo := f1617.map (oH' _ (by omega)) hMo
    have z17 : Hb < wc.heap.size := block_lt_of_cell h17.c0
    obtain ⟨w17, hw17⟩ : ∃ w17, w17 = wc := ⟨_, rfl⟩
    rw [← hw17] at bel17 t17 b17 p17 u17 hK17 hR17 xf x0 x1 hKo hLo hMo z17 h17 ⊢
    clear hw17 f1617 bel16 t16 b16 p16 u16 hK16 hR16 h16 hf0 hf1 hf2 oH'
    have hmc := mkChan
    have y0 := h17.c0
    have y1 := h17.c1
    have y2 := h17.c2
    have y3 := b17.c0
    have y4 := b17.c1
    have lBb : Bb < w17.heap.size := by omega
    go_upto_region 13 with fail
    go_cut [27] from 65 to 69 (fun v wx => ∃ m c, v = .pointer (some ⟨m, 0, none⟩) ∧ Mk wx m c s' bc bm lc lm ∧ Fr [] w17 wx ∧ Hb < c ∧ c < m)
    case first =>
      go_region
      go_wp2
      go_meet
      refine ⟨_, _, rfl, ⟨by simp, by simp, by simp, by simp, by simp, by simp, ?_⟩, ((Fr.alloc _ _).trans (Fr.alloc _ _)).drew, z17, by omega⟩
      have e1 := Below.heap_alloc (w17.alloc (.chan 0 #[] false 0 0 false)) (.cells #[.int .i64 s', .int .u64 bc, .string bm, .int .i64 0, .int .i64 0, .int .u64 lc, .string lm, .chan (some w17.heap.size)] 128) w17.heap.size (by simp)
      exact e1.trans (heap_alloc_new w17 _)
    case rest =>
      obtain ⟨m, c, rfl, hm18, f1718, oc, om⟩ := hcut
      have bel18 : Below B w wc := bel17.trans (f1718.under (by simp) (by omega))
      have t18 := t17.keep f1718 (by simp)
      have b18 := b17.keep f1718 (by simp)
      have p18 := p17.keep f1718 (by simp)
      have u18 := u17.keep f1718 (by simp)
      have hK18 := hK17.keep f1718 (by simp)
      have hR18 := hR17.keep f1718 (by simp)
      have xf := (f1718.frozen (b := C) (o := 1) (by simp) (block_lt_of_cell x0)).trans xf
      have x0 := f1718.cell (by simp) x0
      have x1 := f1718.cell (by simp) x1
      have hKo := f1718.map (by simp) hKo
      have hLo := f1718.map (by simp) hLo
      have hMo := f1718.map (by simp) hMo
      obtain ⟨w18, hw18⟩ : ∃ w18, w18 = wc := ⟨_, rfl⟩
      rw [← hw18] at bel18 t18 b18 p18 u18 hK18 hR18 hm18 xf x0 x1 hKo hLo hMo ⊢
      clear hw18 f1718 bel17 t17 b17 p17 u17 hK17 hR17 h17 hmc y0 y1 y2 y3 y4 lBb z17
      have k0 := hK18.c0
      have kf0 := hK18.f0
      go_upto_region 15 with fail
      obtain ⟨w19, hw19⟩ : ∃ w19, w19 = w18.setCell ⟨k, 0, none⟩ (.pointer (some ⟨m, 0, none⟩)) := ⟨_, rfl⟩
      rw [← hw19]
      have f1819 : Fr [k] w18 w19 := by rw [hw19]; exact Fr.set _ (by simp) _
      have hK19 : KM w19 k (.pointer (some ⟨m, 0, none⟩)) pc pm uc um := by rw [hw19]; exact hK18.setH _
      have ok' : ∀ x, x < k → x ∉ [k] := by intro x hx; simp; omega
      have ok2 : ∀ x, k < x → x ∉ [k] := by intro x hx; simp; omega
      have bel19 : Below B w w19 := bel18.trans (f1819.under (by intro b hb; rw [List.mem_singleton] at hb; omega) (by have : m < w18.heap.size := block_lt_of_cell hm18.c0; omega))
      have t19 := t18.keep f1819 (ok' _ (by omega))
      have b19 := b18.keep f1819 (ok' _ (by omega))
      have p19 := p18.keep f1819 (ok' _ (by omega))
      have u19 := u18.keep f1819 (ok' _ (by omega))
      have hm19 := hm18.keep f1819 (ok2 _ (by omega)) (ok2 _ (by omega))
      have hR19 := hR18.keep f1819 (ok' _ (by omega))
      have xf := (f1819.frozen (b := C) (o := 1) (ok' _ (by omega)) (block_lt_of_cell x0)).trans xf
      have x0 := f1819.cell (ok' _ (by omega)) x0
      have x1 := f1819.cell (ok' _ (by omega)) x1
      have hKo := f1819.map (ok' _ (by omega)) hKo
      have hLo := f1819.map (ok' _ (by omega)) hLo
      have hMo := f1819.map (ok' _ (by omega)) hMo
      clear hw19 f1819 bel18 t18 b18 p18 u18 hK18 hm18 hR18 k0 kf0 ok' ok2
      have fd : Fr [] w19 w19.drew := (Fr.refl _ _).drew
      have hsm' : (same = true ∧ s' = since ∧ bc = bc ∧ bm = bm) ∨ (same = false ∧ s' ≠ since) := by
        rcases hsm with h | h
        · exact Or.inl ⟨h.1, h.2, rfl, rfl⟩
        · exact Or.inr h
      have lm19 : m < w19.heap.size := block_lt_of_cell hm19.c0
      have hrel := release_held R K M L C k m c (0 + 1) 0 0 _ _ _ key since bc bm now s' bc lc pc uc bm lm pm um w19.drew (hR19.keep fd (by simp)) stored hkey x0 x1 xf (by omega) (by omega) (by omega) (by omega) (by omega) (by omega)
        (fd.map (by simp) hMo) (atKey_put_same (k := .string key.data.toList) ⟨[], rfl⟩ trivial _ _) (hK19.keep fd (by simp)) (hm19.keep fd (by simp) (by simp)) (fd.map (by simp) hLo) (fd.map (by simp) hKo) (fun l => rfl) (by omega) (by omega) (by unfold maxLen; omega) ws wb hbm same hsm'
      have y0 := t19.c0
      have y1 := t19.c1
      have y2 := t19.c2
      have hTn : T ∉ [R, C, k, c, L, M] := by simp only [List.mem_cons, List.not_mem_nil, or_false]; omega
      go_cut [28] from 74 to 79 (fun v wx => v = .nilIface ∧ ∃ h pc' pm' uc' um' lb cap, KM wx k h pc' pm' uc' um' ∧ RelOut same stored m bc bm lc lm pc pm uc um h pc' pm' uc' um' ∧ Rep wx R K M L C 0 0 (.slice (some ⟨lb, 0, none⟩) 1 cap) ∧
        wx.ownsMap Yba.prog 37 (plainElem (H := Unit) Yba.prog 4) L (0 + 1) ((DataW.map [] : DataW Unit).put (relK key since bc bm) (.lit (.bool true))) ∧ Fr [R, C, k, c, L, M] w19 wx)
      case first =>
        go_region_held3 (fun w' => w'.cell? ⟨T, 0, none⟩ = some (.int .i64 since) ∧ w'.cell? ⟨T, 1, none⟩ = some (.int .u64 bc) ∧ w'.cell? ⟨T, 2, none⟩ = some (.string bm)) (refine ⟨?_, ?_, ?_⟩ <;> first | assumption | exact y0 | exact y1 | exact y2)
          (first
            | (go_at_call 11; refine (background _).mono ?_; rintro e w' ⟨rfl, rfl⟩)
            | (go_at_call 10; refine hrel.mono ?_; rintro e w' ⟨rfl, h', pc', pm', uc', um', lb, cap, hk', hout', hr', hl', hf'⟩; have t' := t19.keep ((Fr.refl _ w19).drew.trans hf') hTn; have q0 := t'.c0; have q1 := t'.c1; have q2 := t'.c2))
        go_wp2
        go_meet
        exact ⟨rfl, h', pc', pm', uc', um', lb, cap, hk', hout', hr', hl', (Fr.refl _ w19).drew.trans hf'⟩
      case rest =>
        obtain ⟨rfl, h', pc', pm', uc', um', lb, cap, hk', hout', hr', hl', hf'⟩ := hcut
        have oc6 : ∀ x, (x = T ∨ x = Bb ∨ x = Pb ∨ x = Ub) → x ∉ [R, C, k, c, L, M] := by intro x hx; simp only [List.mem_cons, List.not_mem_nil, or_false]; omega
        have hB6 : ∀ x, x ∈ [R, C, k, c, L, M] → B ≤ x := by intro x hx; simp only [List.mem_cons, List.not_mem_nil, or_false] at hx; omega
        have belc : Below B w wc := bel19.trans (hf'.under hB6 (by omega))
        have tc' := t19.keep hf' (oc6 _ (Or.inl rfl))
        have bc' := b19.keep hf' (oc6 _ (Or.inr (Or.inl rfl)))
        have pc'' := p19.keep hf' (oc6 _ (Or.inr (Or.inr (Or.inl rfl))))
        have uc'' := u19.keep hf' (oc6 _ (Or.inr (Or.inr (Or.inr rfl))))
        have hlook := look_rel hl' (atKey_put_same (k := relK key since bc bm) ⟨[], rfl⟩ trivial _ _) hkey ws wb hbm
        clear hrel fd hl' hf' bel19 t19 b19 p19 u19 hm19 hR19 hK19 y0 y1 y2 hsm' hB6 oc6 hTn
        have g16 := hr'.c16
        have g17 := hr'.c17
        have y0 := tc'.c0
        have y1 := tc'.c1
        have y2 := tc'.c2
        obtain ⟨wX, hwX⟩ : ∃ wX, wX = wc := ⟨_, rfl⟩
        rw [← hwX] at hlook g16 g17 y0 y1 y2 tc' bc' pc'' uc'' hk' hr' belc ⊢
        clear hwX
        go_upto_region 18 with fail
        go_cut [98] from 82 to 97 (fun v wx => v = .bool false ∧ ∃ nq, wx = wX.drewN nq)
        case first =>
          go_quiet (fail)
          go_wp2
          go_meet
          exact ⟨rfl, _, rfl⟩
        case rest =>
          obtain ⟨rfl, nq, rfl⟩ := hcut
          have f20 : ∃ w20, w20 = wX.drewN nq ∧ Fr [] wX w20 := ⟨_, rfl, Fr.drewN _ _⟩
          obtain ⟨w20, hw20, f20⟩ := f20
          rw [← hw20]
          have tk := tc'.keep f20 (by simp)
          have bk := bc'.keep f20 (by simp)
          have pk := pc''.keep f20 (by simp)
          have uk := uc''.keep f20 (by simp)
          have kk := hk'.keep f20 (by simp)
          have belk : Below B w w20 := belc.trans (f20.under (by simp) (by have : T < wX.heap.size := block_lt_of_cell tc'.c0; omega))
          clear hw20 f20 hlook g16 g17 y0 y1 y2 tc' bc' pc'' uc'' hk' hr' belc
          have y0 := tk.c0
          have y1 := tk.c1
          have y2 := tk.c2
          have y3 := bk.c0
          have y4 := bk.c1
          have y5 := pk.c0
          have y6 := pk.c1
          have y7 := uk.c0
          have y8 := uk.c1
          have k0 := kk.c0
          have k1 := kk.c1
          have k2 := kk.c2
          have k3 := kk.c3
          have k4 := kk.c4
          clear hsm
          rcases hout' with ⟨e1, e2, e3, e4, e5, e6⟩ | ⟨e1, e0, e2, e3, e4, e5, e6⟩ | ⟨e1, e0, hcmp, e2, e3, e4, e5, e6⟩ | ⟨e1, e0, hcmp, e2, e3, e4, e5, e6⟩
          · rw [e2] at k0
            rw [e3] at k1
            rw [e4] at k2
            rw [e5] at k3
            rw [e6] at k4
            subst e1
            clear e2 e3 e4 e5 e6 kk
            have hpe := eql123 m
            go_wp2_with fail
            go_quiet (fail)
            go_wp2
            go_ret
            exact ⟨rfl, by rw [← HB.out]; exact below_drewN belk _⟩
          · rw [e2] at k0
            rw [e3] at k1
            rw [e4] at k2
            rw [e5] at k3
            rw [e6] at k4
            subst e1 e0
            clear e2 e3 e4 e5 e6 kk
            go_wp2_with fail
            go_quiet (fail)
            go_wp2
            go_ret
            exact ⟨rfl, by rw [← HB.out]; exact below_drewN belk _⟩
          · rw [e2] at k0
            rw [e3] at k1
            rw [e4] at k2
            rw [e5] at k3
            rw [e6] at k4
            subst e1 e0
            clear e2 e3 e4 e5 e6 kk
            have hd : decide (0 < cmpV bc bm.data.toList uc um.data.toList) = true := by simpa using hcmp
            have lT : T < w20.heap.size := block_lt_of_cell y0
            have lU : Ub < w20.heap.size := block_lt_of_cell y7
            have lk : k < w20.heap.size := block_lt_of_cell k0
            have lP : Pb < w20.heap.size := block_lt_of_cell y5
            go_wp2_with fail
            obtain ⟨w21, hw21⟩ : ∃ w21, w21 = w20.alloc (.cells #[.int .u64 uc, .string um] 31) := ⟨_, rfl⟩
            obtain ⟨Q, hQ⟩ : ∃ Q, Q = w20.heap.size := ⟨_, rfl⟩
            rw [← hw21, ← hQ]
            have f21 : Fr [] w20 w21 := by rw [hw21]; exact Fr.alloc _ _
            have q0 : w21.cell? ⟨Q, 0, none⟩ = some (.int .u64 uc) := by rw [hw21, hQ]; simp
            have q1 : w21.cell? ⟨Q, 1, none⟩ = some (.string um) := by rw [hw21, hQ]; simp
            have qf0 : w21.frozen? ⟨Q, 0, none⟩ = false := by rw [hw21, hQ]; exact World.frozen?_alloc_at _ _ _ _ rfl
            have qf1 : w21.frozen? ⟨Q, 1, none⟩ = false := by rw [hw21, hQ]; exact World.frozen?_alloc_at _ _ _ _ rfl
            have nQ : T < Q ∧ k < Q ∧ Pb < Q := by omega
            clear hw21 hQ lT lU lk lP
            refine (compare_below bc uc bm um w21).mono ?_
            rintro e w22 ⟨rfl, hb⟩
            have f2122 : Fr [] w21 w22 := Fr.below hb
            have f22 : Fr [] w20 w22 := f21.trans f2122
            have bel22 : Below B w w22 := belk.trans (f22.under (by simp) (by have : T < w20.heap.size := block_lt_of_cell y0; omega))
            have lQ : Q < w21.heap.size := block_lt_of_cell q0
            have qf0 := (f2122.frozen (b := Q) (o := 0) (by simp) lQ).trans qf0
            have qf1 := (f2122.frozen (b := Q) (o := 1) (by simp) lQ).trans qf1
            have q0 := f2122.cell (by simp) q0
            have q1 := f2122.cell (by simp) q1
            have y0 := f22.cell (by simp) y0
            have y1 := f22.cell (by simp) y1
            have y2 := f22.cell (by simp) y2
            have y5 := f22.cell (by simp) y5
            have y6 := f22.cell (by simp) y6
            have k0 := f22.cell (by simp) k0
            have k1 := f22.cell (by simp) k1
            have k2 := f22.cell (by simp) k2
            have k3 := f22.cell (by simp) k3
            have k4 := f22.cell (by simp) k4
            clear f2122 f22 f21 hb lQ
            go_upto_region 28 with fail
            obtain ⟨w23, hw23⟩ : ∃ w23, w23 = (w22.setCell ⟨Q, 0, none⟩ (.int .u64 bc)).setCell ⟨Q, 1, none⟩ (.string bm) := ⟨_, rfl⟩
            rw [← hw23]
            have r0 : w23.cell? ⟨Q, 0, none⟩ = some (.int .u64 bc) := by rw [hw23]; exact (cset_ne _ _ _ _ _ _ (by omega)).trans (World.cell?_setCell_same w22 _ _ q0)
            have r1 : w23.cell? ⟨Q, 1, none⟩ = some (.string bm) := by rw [hw23]; exact World.cell?_setCell_same _ _ _ ((cset_ne _ _ _ _ _ _ (by omega)).trans q1)
            have f23 : Fr [Q] w22 w23 := by rw [hw23]; exact (Fr.set _ (by simp) _).trans (Fr.set _ (by simp) _)
            have nQk : k ∉ [Q] := by simp; omega
            have nQP : Pb ∉ [Q] := by simp; omega
            have y5 := f23.cell nQP y5
            have y6 := f23.cell nQP y6
            have k1 := f23.cell nQk k1
            have k2 := f23.cell nQk k2
            have k3 := f23.cell nQk k3
            have k4 := f23.cell nQk k4
            have bel23 : Below B w w23 := bel22.trans (f23.under (by intro b hb; rw [List.mem_singleton] at hb; omega) (by have : T < w22.heap.size := block_lt_of_cell y0; omega))
            clear hw23 f23 q0 q1 qf0 qf1
            go_quiet (fail)
            go_wp2
            go_ret
            exact ⟨rfl, by rw [← HB.out]; exact below_drewN bel23 _⟩
          · rw [e2] at k0
            rw [e3] at k1
            rw [e4] at k2
            rw [e5] at k3
            rw [e6] at k4
            subst e1 e0
            clear e2 e3 e4 e5 e6 kk
            have hd : decide (0 < cmpV bc bm.data.toList uc um.data.toList) = false := by simpa using hcmp
            have lT : T < w20.heap.size := block_lt_of_cell y0
            have lU : Ub < w20.heap.size := block_lt_of_cell y7
            have lk : k < w20.heap.size := block_lt_of_cell k0
            have lP : Pb < w20.heap.size := block_lt_of_cell y5
            go_wp2_with fail
            obtain ⟨w21, hw21⟩ : ∃ w21, w21 = w20.alloc (.cells #[.int .u64 uc, .string um] 31) := ⟨_, rfl⟩
            obtain ⟨Q, hQ⟩ : ∃ Q, Q = w20.heap.size := ⟨_, rfl⟩
            rw [← hw21, ← hQ]
            have f21 : Fr [] w20 w21 := by rw [hw21]; exact Fr.alloc _ _
            have q0 : w21.cell? ⟨Q, 0, none⟩ = some (.int .u64 uc) := by rw [hw21, hQ]; simp
            have q1 : w21.cell? ⟨Q, 1, none⟩ = some (.string um) := by rw [hw21, hQ]; simp
            have qf0 : w21.frozen? ⟨Q, 0, none⟩ = false := by rw [hw21, hQ]; exact World.frozen?_alloc_at _ _ _ _ rfl
            have qf1 : w21.frozen? ⟨Q, 1, none⟩ = false := by rw [hw21, hQ]; exact World.frozen?_alloc_at _ _ _ _ rfl
            have nQ : T < Q ∧ k < Q ∧ Pb < Q := by omega
            clear hw21 hQ lT lU lk lP
            refine (compare_below bc uc bm um w21).mono ?_
            rintro e w22 ⟨rfl, hb⟩
            have f2122 : Fr [] w21 w22 := Fr.below hb
            have f22 : Fr [] w20 w22 := f21.trans f2122
            have bel22 : Below B w w22 := belk.trans (f22.under (by simp) (by have : T < w20.heap.size := block_lt_of_cell y0; omega))
            have lQ : Q < w21.heap.size := block_lt_of_cell q0
            have qf0 := (f2122.frozen (b := Q) (o := 0) (by simp) lQ).trans qf0
            have qf1 := (f2122.frozen (b := Q) (o := 1) (by simp) lQ).trans qf1
            have q0 := f2122.cell (by simp) q0
            have q1 := f2122.cell (by simp) q1
            have y0 := f22.cell (by simp) y0
            have y1 := f22.cell (by simp) y1
            have y2 := f22.cell (by simp) y2
            have y5 := f22.cell (by simp) y5
            have y6 := f22.cell (by simp) y6
            have k0 := f22.cell (by simp) k0
            have k1 := f22.cell (by simp) k1
            have k2 := f22.cell (by simp) k2
            have k3 := f22.cell (by simp) k3
            have k4 := f22.cell (by simp) k4
            clear f2122 f22 f21 hb lQ
            go_wp2_with fail
            go_quiet (fail)
            go_wp2
            go_ret
            exact ⟨rfl, by rw [← HB.out]; exact below_drewN bel22 _⟩

end Go.Proofs.Ybulkaixg.Marks
