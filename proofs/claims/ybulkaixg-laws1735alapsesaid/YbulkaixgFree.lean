/-
  (*Replica).Release (10) at a key that has no marks, over a row of lapses.
-/
import Derived.Test.YbulkaixgForget
namespace Go.Proofs.Ybulkaixg.Lapse
open Go.RowKit Go.Maps Go.WideMaps Go.RwLone Cmp Mp Marks
set_option linter.unusedVariables false
set_option linter.unusedSimpArgs false
set_option maxRecDepth 100000
attribute [local go_sem ↓] Go.wp_at_zero Go.wp_at_succ

/-- A code that ends normally: what a panic would have to meet is of no account. -/
def Calm (Q : Exit → Act → World → Prop) : Exit → Act → World → Prop := fun e a w =>
  match e with
  | .normal => Q .normal a w
  | _ => False
theorem wp_calm {P : Program} {c : Code} {Q : Exit → Act → World → Prop} {a : Act} {w : World} (h : c.wp P (Calm Q) a w) : c.wp P Q a w :=
  wp_mono h (by
    intro e a w h
    cases e <;> first | exact h | exact False.elim h)
theorem calm_mk {Q : Exit → Act → World → Prop} {a : Act} {w : World} (h : Q .normal a w) : Calm Q .normal a w := h

/-- The cells of one lapse. -/
def lapC (key : ByteArray) (since bc : Int) (bm : ByteArray) (at_ : Int) : Nat → Value := fun q =>
  match q with
  | 0 => .string key
  | 1 => .int .i64 since
  | 2 => .int .u64 bc
  | 3 => .string bm
  | _ => .int .i64 at_

theorem grownO {bs : List Nat} {w w' : World} {r : Option Nat} (h : w.grownBy w' r) (hr : ∀ b, r = some b → b ∈ bs) : Fr bs w w' :=
  ⟨h.os, h.tape, h.output, h.size, fun j hj hn => h.block j hj (fun e => hn (hr j e.symm))⟩

theorem own_mem {R : Nat} {v : Value} {og b : Nat} (h : own R v = og) (hb : v.ownBlock = some b) : b = og := by
  unfold own at h
  rw [hb] at h
  exact h

theorem Row.own_lt {B : Nat} {w : World} {v : Value} {n : Nat} {f : Nat → Nat → Value} {R : Nat} (h : Row B w v n f) (hR : R < B) (hB : B ≤ w.heap.size) : own R v = R ∨ B ≤ own R v ∧ own R v < w.heap.size := by
  rcases h with ⟨rfl, _⟩ | ⟨g, o, cap, rfl, hb, hl, _⟩
  · exact Or.inl rfl
  · exact Or.inr ⟨hb, hl⟩

theorem Row.slice {B : Nat} {w : World} {v : Value} {n : Nat} {f : Nat → Nat → Value} (h : Row B w v n f) : ∃ a c, v = .slice a n c := by
  rcases h with ⟨rfl, rfl⟩ | ⟨g, o, cap, rfl, _⟩
  · exact ⟨_, _, rfl⟩
  · exact ⟨_, _, rfl⟩

theorem not_own {B : Nat} {w : World} {v : Value} {n : Nat} {f : Nat → Nat → Value} {R : Nat} (h : Row B w v n f) (hR : R < B) : ∀ b, v.ownBlock = some b → b ∉ [R] := by
  intro b hb
  rcases h with ⟨rfl, rfl⟩ | ⟨g, o, cap, rfl, hbg, _⟩
  · cases hb
  · have e : g = b := Option.some.inj hb
    simp
    omega

theorem lapC_cells {W : World} {N : Nat} {key bm : ByteArray} {since bc at_ : Int} (c0 : W.cell? ⟨N, 0, none⟩ = some (.string key)) (c1 : W.cell? ⟨N, 1, none⟩ = some (.int .i64 since)) (c2 : W.cell? ⟨N, 2, none⟩ = some (.int .u64 bc)) (c3 : W.cell? ⟨N, 3, none⟩ = some (.string bm)) (c4 : W.cell? ⟨N, 4, none⟩ = some (.int .i64 at_)) :
    ∀ q, q < 5 → W.cell? ((⟨N, 0, none⟩ : Addr).add q) = some (lapC key since bc bm at_ q) := by
  intro q hq
  match q, hq with
  | 0, _ => simpa [Addr.add, lapC] using c0
  | 1, _ => simpa [Addr.add, lapC] using c1
  | 2, _ => simpa [Addr.add, lapC] using c2
  | 3, _ => simpa [Addr.add, lapC] using c3
  | 4, _ => simpa [Addr.add, lapC] using c4

theorem lapC_one {key bm : ByteArray} {since bc at_ : Int} : ∀ q, q < 5 → (lapC key since bc bm at_ q).oneCell' = true := by
  intro q hq
  match q, hq with
  | 0, _ => rfl
  | 1, _ => rfl
  | 2, _ => rfl
  | 3, _ => rfl
  | 4, _ => rfl

/-- What Release leaves: d releases forgotten, one put behind. -/
def Freed (R K M L C nL : Nat) (now : Int) (B n : Nat) (v : Value) (kf : Nat → ByteArray) (at_ : Nat → Int) (S : Lit → Prop) (key : ByteArray) (since bc : Int) (bm : ByteArray) (w w' : World) : Prop :=
  ∃ d v' D', d ≤ n ∧ (∀ i, i < d → at_ i < now) ∧ (d < n → ¬ at_ d < now) ∧ Rep w' R K M L C 0 0 v' ∧ Row B w' v' (n - d + 1) (snoc (fun i => lapF kf at_ (i + d)) (n - d) (lapC key since bc bm (wrap64 (now + 400000000)))) ∧
    w'.ownsMap Yba.prog 37 (plainElem (H := Unit) Yba.prog 4) L (nL + 1) D' ∧ Says D' (fun l => (S l ∧ ∀ i, i < d → l ≠ kk kf i) ∨ l = relK key since bc bm) ∧ w'.cell? ⟨C, 1, none⟩ = some (.int .i64 1) ∧ Fr [R, C, L, M, own R v] w w'

set_option maxHeartbeats 3200000 in
theorem release_free (R K M L C nk nL B n : Nat) (Dk DL : DataW Unit) (key : ByteArray) (since bc : Int) (bm : ByteArray) (now : Int) (v : Value) (kf : Nat → ByteArray) (at_ : Nat → Int) (S : Lit → Prop) (w : World) (hR : Rep w R K M L C 0 0 v) (hrow : Row B w v n (lapF kf at_))
    (oC : C < K) (oK : K < M) (oM : M < L) (oL : L < R) (oR : R < B) (oB : B ≤ w.heap.size) (hkf : ∀ i, (kf i).size ≤ maxLen) (hn : n ≤ 1024) (hkey : key.size ≤ maxLen)
    (hC0 : w.cell? ⟨C, 0, none⟩ = some (.int .i64 now)) (hC1 : w.cell? ⟨C, 1, none⟩ = some (.int .i64 0)) (fC1 : w.frozen? ⟨C, 1, none⟩ = false)
    (hM : w.ownsMap Yba.prog 9 ptrE M 0 (.map [])) (hLo : w.ownsMap Yba.prog 37 (plainElem (H := Unit) Yba.prog 4) L nL DL) (hS : Says DL S) (hKo : w.ownsMap Yba.prog 9 ptrE K nk Dk) (hDk : ∀ l, Dk.atKey l .nil = .nil) (hnL : nL < maxLen)
    (ws : (Lit.int .i64 since).wf = true) (wb : (Lit.int .u64 bc).wf = true) (hbm : bm.size ≤ maxLen) :
    Calls Yba.prog 10 #[.pointer (some ⟨R, 0, none⟩), .iface 171 (.agg #[]), .string key, .agg #[.int .i64 since, .int .u64 bc, .string bm], .bool false] w fun e w' => e = .returned .nilIface ∧
      Freed R K M L C nL now B n v kf at_ S key since bc bm w w' := by
  have hog := hrow.own_lt oR oB
  obtain ⟨og, hogd⟩ : ∃ og, own R v = og := ⟨_, rfl⟩
  rw [hogd] at hog
  have HS0 := (show Hid _ from hS)
  have HF0 := (show Hid _ from hkf)
  have HD0 := (show Hid _ from hDk)
  have HRW := (show Hid (Row B w v n (lapF kf at_)) from hrow)
  clear hS hkf hDk hrow
  go_enter_defers Yba.func10, Yba.ntmps10
  go_wp2_with fail
  obtain ⟨T, hT⟩ : ∃ T, T = w.heap.size := ⟨_, rfl⟩
  obtain ⟨w1, hw1⟩ : ∃ w1, w1 = w.alloc (.cells #[.int .i64 since, .int .u64 bc, .string bm] 33) := ⟨_, rfl⟩
  rw [← hw1, ← hT]
  have f1 : Fr [R, C, L, M, og] w w1 := by rw [hw1]; exact Fr.alloc w _
  have f01 : Fr [] w w1 := by rw [hw1]; exact Fr.alloc w _
  have s1 : w1.heap.size = T + 1 := by rw [hw1, hT]; simp
  have hR1 := hR.keep f01 (by simp)
  have t1 : T3 w1 T since bc bm := by rw [hw1, hT]; exact ⟨by simp, by simp, by simp⟩
  have oT : B ≤ T ∧ og < T := by omega
  have d0 := f01.cell (by simp) hC0
  have d1 := f01.cell (by simp) hC1
  have e1 := (f01.frozen (b := C) (o := 1) (by simp) (block_lt_of_cell hC0)).trans fC1
  have hrw1 := Row.keepF HRW.out f01 (by simp)
  have hM1 := f01.map (by simp) hM
  have hL1 := f01.map (by simp) hLo
  have hK1 := f01.map (by simp) hKo
  clear hw1 hT hR hC0 hC1 fC1 f01 hM hLo hKo HRW oB
  refine (wlock_free Yba.rwWLib R 0 _ _ w1 hR1.c0 hR1.c2 hR1.c3 hR1.c4 hR1.f0 hR1.f4).mono ?_
  rintro e w2 ⟨rfl, hw2⟩
  have hR2 : Rep w2 R K M L C 1 (-1073741824) v := by rw [hw2]; exact (hR1.set0 1).set4 _
  have f12 : Fr [R] w1 w2 := by rw [hw2]; exact (Fr.set w1 (by simp) _).trans (Fr.set _ (by simp) _)
  have f2 : Fr [R, C, L, M, og] w w2 := f1.trans (f12.wide (by simp))
  have e1' := (f12.frozen (b := C) (o := 1) (by simp; omega) (block_lt_of_cell d0)).trans e1
  have d0' := f12.cell (by simp; omega) d0
  have d1' := f12.cell (by simp; omega) d1
  have t2 := t1.keep f12 (by simp; omega)
  have hrw2 := Row.keepF hrw1 f12 (by intro b hb; rcases hrw1 with ⟨rfl, _⟩ | ⟨g, o, cap, rfl, hbg, _⟩ <;> cases hb; simp; omega)
  have hM2 := f12.map (by simp; omega) hM1
  have hL2 := f12.map (by simp; omega) hL1
  have hK2 := f12.map (by simp; omega) hK1
  have s2 : T < w2.heap.size := by have := f12.size; omega
  clear hw2 f12 d0 d1 e1 t1 hR1 f1 hrw1 hM1 hL1 hK1 s1
  have g14 := hR2.c14
  have hme := method_elapsed ⟨C, 0, none⟩
  go_wp2_with fail
  refine (elapsed_any C now 0 w2 d0' d1' e1').mono ?_
  rintro e w3 ⟨rfl, hw3⟩
  have f23 : Fr [C] w2 w3 := by rw [hw3]; exact Fr.set w2 (by simp) _
  have hR3 := hR2.keep f23 (by simp; omega)
  have f3 : Fr [R, C, L, M, og] w w3 := f2.trans (f23.wide (by simp))
  have t3 := t2.keep f23 (by simp; omega)
  have hC3 : w3.cell? ⟨C, 1, none⟩ = some (.int .i64 1) := by rw [hw3, show wrap64 (0 + 1) = 1 from by simp [wrap64]]; exact World.cell?_setCell_same w2 _ (.int .i64 1) d1'
  have hrw3 := Row.keepF hrw2 f23 (by intro b hb; rcases hrw2 with ⟨rfl, _⟩ | ⟨g, o, cap, rfl, hbg, _⟩ <;> cases hb; simp; omega)
  have hM3 := f23.map (by simp; omega) hM2
  have hL3 := f23.map (by simp; omega) hL2
  have hK3 := f23.map (by simp; omega) hK2
  have s3 : T < w3.heap.size := by have := f23.size; omega
  clear hw3 f23 d0' d1' e1' t2 hR2 f2 g14 hme hrw2 hM2 hL2 hK2 s2
  go_wp2_with fail
  refine (forget_row R K M L C nL 1 (-1073741824) now B n v kf at_ S DL w3 hR3 hrw3 oR (by omega) oL hL3 HS0.out HF0.out hn).mono ?_
  rintro e w4 ⟨rfl, gk, ⟨d, v', D', hkd, hat, hR4, hrw4, hL4, hS4, f34, hov⟩, hlast⟩
  rw [hogd] at f34 hov
  have HV := (show Hid (own R v' = og) from hov)
  have HAT := (show Hid _ from hat)
  have HLA := (show Hid (0 < gk → ¬ at_ (n - gk) < now) from hlast)
  have HS4 := (show Hid (Says D' (fun l => S l ∧ ∀ i, i < d → l ≠ kk kf i)) from hS4)
  have f4 : Fr [R, C, L, M, og] w w4 := f3.trans (f34.wide (by intro b hb; simp only [List.mem_cons, List.not_mem_nil, or_false] at hb ⊢; omega))
  have t4 := t3.keep f34 (by simp only [List.mem_cons, List.not_mem_nil, or_false]; omega)
  have hC4 := f34.cell (by simp only [List.mem_cons, List.not_mem_nil, or_false]; omega) hC3
  have hM4 := f34.map (by simp only [List.mem_cons, List.not_mem_nil, or_false]; omega) hM3
  have hK4 := f34.map (by simp only [List.mem_cons, List.not_mem_nil, or_false]; omega) hK3
  have s4 : T < w4.heap.size := by have := f34.size; omega
  have HKD := (show Hid (gk + d = n) from hkd)
  clear hat hlast hS4 hov f34 f3 t3 hC3 hM3 hK3 hL3 hR3 hrw3 s3 HS0 HF0 hkd
  go_wp2_with fail
  refine (marks_new R M 0 (.map []) key w4 hkey hR4.c15 hM4 (by omega) rfl).mono ?_
  rintro e w5 ⟨rfl, g5, hM5⟩
  obtain ⟨k, hk⟩ : ∃ k, k = w4.heap.size := ⟨_, rfl⟩
  rw [← hk] at hM5 ⊢
  have fa : Fr [M] w4 (w4.alloc (.cells km0 126)) := Fr.alloc _ _
  have fb : Fr [M] (w4.alloc (.cells km0 126)) w5 := Fr.grown g5 (by simp)
  have f45 : Fr [M] w4 w5 := fa.trans fb
  have hKM5 : KM w5 k (.pointer none) 0 ⟨#[]⟩ 0 ⟨#[]⟩ := by
    have h : KM (w4.alloc (.cells km0 126)) k (.pointer none) 0 ⟨#[]⟩ 0 ⟨#[]⟩ := by
      rw [hk]
      exact ⟨by simp [km0], by simp [km0], by simp [km0], by simp [km0], by simp [km0], by simp [km0], by simp, by simp, by simp, by simp, by simp⟩
    exact h.keep fb (by simp; omega)
  have hR5 := hR4.keep f45 (by simp; omega)
  have t5 := t4.keep f45 (by simp; omega)
  have hC5 := f45.cell (by simp; omega) hC4
  have hK5 := f45.map (by simp; omega) hK4
  have hL5 := f45.map (by simp; omega) hL4
  have hrw5 := Row.keepF hrw4 f45 (by intro b hb; rcases hrw4 with ⟨rfl, _⟩ | ⟨g, o, cap, rfl, hbg, _⟩ <;> cases hb; simp; omega)
  have f5 : Fr [R, C, L, M, og] w w5 := f4.trans (f45.wide (by simp))
  have s5 : T < k ∧ k < w5.heap.size := ⟨by omega, block_lt_of_cell hKM5.c0⟩
  clear fa fb f45 g5 hk f4 t4 hC4 hM4 hK4 hL4 hR4 hrw4 s4
  have k0 := hKM5.c0
  go_upto_region 8 with fail
  go_cut [49] from 40 to 49 (fun t wx => t = .bool false ∧ ∃ nq, wx = w5.drewN nq)
  case first =>
    go_quiet (fail)
    go_wp2
    go_meet
    exact ⟨rfl, _, rfl⟩
  case rest =>
  obtain ⟨rfl, nq, rfl⟩ := hcut
  obtain ⟨w6, hw6⟩ : ∃ w6, w6 = w5.drewN nq := ⟨_, rfl⟩
  rw [← hw6]
  have f56 : Fr [] w5 w6 := by rw [hw6]; exact Fr.drewN _ _
  have hR6 := hR5.keep f56 (by simp)
  have hKM6 := hKM5.keep f56 (by simp)
  have t6 := t5.keep f56 (by simp)
  have hC6 := f56.cell (by simp) hC5
  have hK6 := f56.map (by simp) hK5
  have hL6 := f56.map (by simp) hL5
  have hM6 := f56.map (by simp) hM5
  have hrw6 := Row.keepF hrw5 f56 (by simp)
  have f6 : Fr [R, C, L, M, og] w w6 := f5.trans (f56.wide (by simp))
  have s6 : k < w6.heap.size := Nat.lt_of_lt_of_le s5.2 f56.size
  clear hw6 f56 hR5 hKM5 t5 hC5 hK5 hL5 hM5 hrw5 f5 k0
  have g18 := hR6.c18
  have y0 := t6.c0
  have y1 := t6.c1
  have y2 := t6.c2
  have lR : R < w6.heap.size := block_lt_of_cell g18
  have lT : T < w6.heap.size := block_lt_of_cell y0
  go_upto_region 13 with fail
  go_cut [14] from 64 to 73 (fun v wx => v = .pointer (some ⟨w6.heap.size, 0, none⟩) ∧ wx = (w6.alloc (.cells #[.string key, .int .i64 since, .int .u64 bc, .string bm, .int .i64 (wrap64 (now + 400000000))] 111)).drew)
  case first =>
    refine wp_calm ?_
    go_region
    refine calm_mk ?_
    go_wp2
    go_meet
    exact ⟨rfl, rfl⟩
  case rest =>
  obtain ⟨rfl, rfl⟩ := hcut
  obtain ⟨N, hN⟩ : ∃ N, N = w6.heap.size := ⟨_, rfl⟩
  obtain ⟨w7, hw7⟩ : ∃ w7, w7 = (w6.alloc (.cells #[.string key, .int .i64 since, .int .u64 bc, .string bm, .int .i64 (wrap64 (now + 400000000))] 111)).drew := ⟨_, rfl⟩
  rw [← hw7, ← hN]
  have f67 : Fr [] w6 w7 := by rw [hw7]; exact (Fr.alloc _ _).drew
  have n0 : w7.cell? ⟨N, 0, none⟩ = some (.string key) := by rw [hw7, hN]; simp
  have n1 : w7.cell? ⟨N, 1, none⟩ = some (.int .i64 since) := by rw [hw7, hN]; simp
  have n2 : w7.cell? ⟨N, 2, none⟩ = some (.int .u64 bc) := by rw [hw7, hN]; simp
  have n3 : w7.cell? ⟨N, 3, none⟩ = some (.string bm) := by rw [hw7, hN]; simp
  have n4 : w7.cell? ⟨N, 4, none⟩ = some (.int .i64 (wrap64 (now + 400000000))) := by rw [hw7, hN]; simp
  have hR7 := hR6.keep f67 (by simp)
  have hKM7 := hKM6.keep f67 (by simp)
  have hC7 := f67.cell (by simp) hC6
  have hK7 := f67.map (by simp) hK6
  have hL7 := f67.map (by simp) hL6
  have hM7 := f67.map (by simp) hM6
  have hrw7 := Row.keepF hrw6 f67 (by simp)
  have f7 : Fr [R, C, L, M, og] w w7 := f6.trans (f67.wide (by simp))
  have s7 : k < N := by omega
  clear hw7 hN f67 hR6 hKM6 t6 hC6 hK6 hL6 hM6 hrw6 f6 g18 y0 y1 y2 lR lT s6
  have g16 := hR7.c16
  obtain ⟨w8, hup, hL8, hg8⟩ := (hL7.drew).update law37 Yba.underlying60 hnL (key37 key since bc bm hkey ws wb hbm) (plainElem_bool Yba.underlying4 true)
  have lN : N < w7.heap.size := block_lt_of_cell n0
  have f78 : Fr [L] w7 w8 := (Fr.drewN w7 1).trans (Fr.grown hg8 (by simp))
  go_upto_region 14 with fail
  go_cut [] from 74 to 79 (fun wx => w8 = wx)
  case first =>
    refine wp_calm ?_
    go_region
    refine calm_mk ?_
    go_wp2
    go_meet
    exact rfl
  case rest =>
  obtain rfl := hcut
  clear hup hg8 g16
  have hIs : IsMap D' := hL7.isMap
  have hS8 : Says (D'.put (relK key since bc bm) (.lit (.bool true))) (fun l => (S l ∧ ∀ i, i < d → l ≠ kk kf i) ∨ l = relK key since bc bm) := Says.put HS4.out hIs _ trivial
  have HS8 := (show Hid _ from hS8)
  have hR8 := hR7.keep f78 (by simp; omega)
  have hKM8 := hKM7.keep f78 (by simp; omega)
  have hC8 := f78.cell (by simp; omega) hC7
  have hK8 := f78.map (by simp; omega) hK7
  have hM8 := f78.map (by simp; omega) hM7
  have hrw8 := Row.keepF hrw7 f78 (by intro b hb; rcases hrw7 with ⟨rfl, _⟩ | ⟨g, o, cap, rfl, hbg, _⟩ <;> cases hb; simp; omega)
  have f8 : Fr [R, C, L, M, og] w w8 := f7.trans (f78.wide (by simp))
  have n0' := f78.cell (by simp; omega) n0
  have n1' := f78.cell (by simp; omega) n1
  have n2' := f78.cell (by simp; omega) n2
  have n3' := f78.cell (by simp; omega) n3
  have n4' := f78.cell (by simp; omega) n4
  clear f78 hS8 HS4 hIs hR7 hKM7 hC7 hK7 hL7 hM7 hrw7 f7 n0 n1 n2 n3 n4 lN
  have g17 := hR8.c17
  have lR : R < w8.heap.size := block_lt_of_cell g17
  have lN : N < w8.heap.size := block_lt_of_cell n0'
  have oB : B ≤ w8.heap.size := by omega
  have hRn : R ∉ v'.ownBlock.toList := by
    intro hb
    have hb := Option.mem_toList.1 hb
    rcases hrw8 with ⟨rfl, _⟩ | ⟨g, o, cap, rfl, hbg, _⟩
    · cases hb
    · have e : g = R := Option.some.inj hb
      omega
  go_upto_region 15 with fail
  go_cut [] from 80 to 89 (fun wx => ∃ v2, Rep wx R K M L C 1 (-1073741824) v2 ∧ Row B wx v2 (n - d + 1) (snoc (fun i => lapF kf at_ (i + d)) (n - d) (lapC key since bc bm (wrap64 (now + 400000000)))) ∧ Fr [R, og] w8 wx)
  case first =>
    refine wp_calm ?_
    go_region_law (refine step_app rfl (.tmp 84) (.tmp 86) rfl B v' (n - d) (fun i => lapF kf at_ (i + d)) rfl (Row.keepF hrw8 (bs := []) (by first | exact (Fr.alloc _ _).drew | exact (Fr.drewN _ 1).trans (Fr.alloc _ _)) (by simp)) (by simp; omega) (by omega) ⟨w8.heap.size, 0, none⟩ 1 (lapC key since bc bm (wrap64 (now + 400000000))) rfl (lapC_cells (by simp) (by simp) (by simp) (by simp) (by simp)) lapC_one ?_; intro v2 w9 hrow9 hgr9; obtain ⟨a2, c2, rfl⟩ := hrow9.slice; have f89 : Fr v'.ownBlock.toList w8 w9 := Fr.trans (by first | exact (Fr.alloc _ _).drew | exact (Fr.drewN _ 1).trans (Fr.alloc _ _)) (grownO hgr9 (fun b hb => Option.mem_toList.2 hb)); have hR9 := hR8.keep f89 hRn; have g17' := hR9.c17; have gf17' := hR9.f17)
    all_goals (refine calm_mk ?_; go_wp2; go_meet; exact ⟨_, hR9.set17 _, Row.keepF hrow9 (Fr.set (bs := [R]) _ (by simp) _) (not_own hrow9 oR), (f89.wide (by intro b hb; have hb := Option.mem_toList.1 hb; rw [own_mem HV.out hb]; simp)).trans (Fr.set _ (by simp) _)⟩)
  case rest =>
  obtain ⟨v2, hR9, hrw9, f89⟩ := hcut
  obtain ⟨w9, hw9⟩ : ∃ w9, w9 = wc := ⟨_, rfl⟩
  rw [← hw9] at hR9 hrw9 f89 ⊢
  clear hw9
  have hKM9 := hKM8.keep f89 (by simp only [List.mem_cons, List.not_mem_nil, or_false]; omega)
  have hC9 := f89.cell (by simp only [List.mem_cons, List.not_mem_nil, or_false]; omega) hC8
  have hK9 := f89.map (by simp only [List.mem_cons, List.not_mem_nil, or_false]; omega) hK8
  have hM9 := f89.map (by simp only [List.mem_cons, List.not_mem_nil, or_false]; omega) hM8
  have hL9 := f89.map (by simp only [List.mem_cons, List.not_mem_nil, or_false]; omega) hL8
  have f9 : Fr [R, C, L, M, og] w w9 := f8.trans (f89.wide (by intro b hb; simp only [List.mem_cons, List.not_mem_nil, or_false] at hb ⊢; omega))
  clear hR8 hKM8 hC8 hK8 hM8 hL8 f8 f89 g17 lR lN oB hRn n0' n1' n2' n3' n4' hrw8
  go_wp2_with fail
  refine leaves_cons (f := 23) (args := #[.pointer (some ⟨R, 0, none⟩), .string key, .pointer (some ⟨k, 0, none⟩)]) (by simp) (by simp [go_sem]) ?_
  refine (tidy_free R K M k _ nk _ Dk key 0 0 ⟨#[]⟩ ⟨#[]⟩ .returning w9 hkey hKM9.c0 hKM9.c1 hKM9.c2 hKM9.c3 hKM9.c4 hKM9.c5 hR9.c6 hR9.c15 hR9.c44 hK9 HD0.out hM9).mono ?_
  rintro e u' w10 ⟨rfl, rfl, hg10⟩
  have f910 : Fr [M] w9 w10 := Fr.grown hg10 (by simp)
  have hR10 := hR9.keep f910 (by simp; omega)
  have hC10 := f910.cell (by simp; omega) hC9
  have hL10 := f910.map (by simp; omega) hL9
  have hrw10 := Row.keepF hrw9 f910 (not_own hrw9 (by omega))
  have f10 : Fr [R, C, L, M, og] w w10 := f9.trans (f910.wide (by simp))
  refine leaves_cons (f := 21) (args := #[.pointer (some ⟨R, 0, none⟩)]) (by simp [settle]) (by simp [go_sem]) ?_
  refine (wunlock_deferred Yba.rwWLib R 0 _ _ _ w10 hR10.c0 hR10.c2 hR10.c3 hR10.c4 hR10.f0 hR10.f4).mono ?_
  rintro e u' w11 ⟨rfl, rfl, hw11⟩
  have hR11 : Rep w11 R K M L C 0 0 v2 := by rw [hw11]; exact (hR10.set4 0).set0 0
  have f1011 : Fr [R] w10 w11 := by rw [hw11]; exact (Fr.set _ (by simp) _).trans (Fr.set _ (by simp) _)
  have hkd := HKD.out
  refine ⟨.nilIface, by simp [results, Yba.results10, go_sem], rfl, d, v2, _, by omega, HAT.out, fun hd => ?_, hR11, Row.keepF hrw10 f1011 (not_own hrw10 oR), f1011.map (by simp; omega) hL10, HS8.out, f1011.cell (by simp; omega) hC10, ?_⟩
  · have := HLA.out (by omega)
    rw [show n - gk = d by omega] at this
    omega
  · rw [hogd]
    exact f10.trans (f1011.wide (by simp))

end Go.Proofs.Ybulkaixg.Lapse
