/-
  THE WALK OF replica.LawS1735ALapse (3), out of the contracts of its callees.
-/
import Derived.Test.YbulkaixgLapA
import Derived.Deep.LoopGhost
import Derived.Deep.CutBlock
namespace Go.Proofs.Ybulkaixg.Lapse
open Go.RowKit Go.Maps Go.WideMaps Go.RwLone Cmp Mp Marks
set_option linter.unusedVariables false
set_option linter.unusedSimpArgs false
set_option maxRecDepth 100000
attribute [local go_sem ↓] Go.wp_at_zero Go.wp_at_succ

/-- The slice holds the n numbers at_. -/
def Ats (w : World) (a0 : Option Addr) (n : Nat) (at_ : Nat → Int) : Prop := ∀ i, i < n → ∃ x, a0 = some x ∧ w.cell? (x.add i) = some (.int .i64 (at_ i))

theorem add_block (x : Addr) (i : Nat) : (x.add i).block = x.block := by unfold Addr.add; split <;> rfl

theorem cell_lt {w : World} {a : Addr} {v : Value} (h : w.cell? a = some v) : a.block < w.heap.size := by
  rcases Nat.lt_or_ge a.block w.heap.size with h' | h'
  · exact h'
  · simp [World.cell?, Array.getElem?_eq_none h'] at h

theorem Ats.keep {w w' : World} {a0 : Option Addr} {n : Nat} {at_ : Nat → Int} (h : Ats w a0 n at_) (hb : Below w.heap.size w w') : Ats w' a0 n at_ := by
  intro i hi
  obtain ⟨x, e, hc⟩ := h i hi
  exact ⟨x, e, (hb.cell (p := x.add i) (cell_lt hc)).trans hc⟩

theorem Row.congr {B : Nat} {w : World} {v : Value} {n : Nat} {f f' : Nat → Nat → Value} (h : Row B w v n f) (e : ∀ i q, i < n → q < 5 → f i q = f' i q) : Row B w v n f' := by
  rcases h with h | ⟨g, o, cap, rfl, hB, hl, hc, hm, hcell, hsp⟩
  · exact Or.inl h
  · exact Or.inr ⟨g, o, cap, rfl, hB, hl, hc, hm, fun i q hi hq => by rw [hcell i q hi hq, e i q hi hq], hsp⟩

theorem snoc_lapF (kf : Nat → ByteArray) (at_ : Nat → Int) (i : Nat) : ∀ j q, j < i + 1 → q < 5 → snoc (lapF kf at_) i (lapC (kf i) i 0 ⟨#[]⟩ (at_ i)) j q = lapF kf at_ j q := by
  intro j q hj hq
  unfold snoc
  by_cases e : j < i
  · rw [if_pos e]
  · obtain rfl : j = i := by omega
    rw [if_neg e]
    match q, hq with
    | 0, _ => rfl
    | 1, _ => rfl
    | 2, _ => rfl
    | 3, _ => rfl
    | 4, _ => rfl

theorem says_snoc {D : DataW Unit} {i : Nat} (h : Says D (fun l => ∃ j, j < i ∧ l = kk nm j)) (hD : IsMap D) : Says (D.put (kk nm i) (.lit (.bool true))) (fun l => ∃ j, j < i + 1 ∧ l = kk nm j) := by
  have h' := Says.put h hD (kk nm i) trivial
  intro l
  have e : (∃ j, j < i + 1 ∧ l = kk nm j) ↔ ((∃ j, j < i ∧ l = kk nm j) ∨ l = kk nm i) := by
    constructor
    · rintro ⟨j, hj, rfl⟩
      by_cases e : j = i
      · subst e; exact Or.inr rfl
      · exact Or.inl ⟨j, by omega, rfl⟩
    · rintro (⟨j, hj, rfl⟩ | rfl)
      · exact ⟨j, by omega, rfl⟩
      · exact ⟨i, by omega, rfl⟩
  exact ⟨fun x => (h' l).1 (e.1 x), fun x => (h' l).2 (fun y => x (e.2 y))⟩

theorem rel_inj {k k' : ByteArray} {s s' c c' : Int} {m m' : ByteArray} (hk : k.size ≤ maxLen) (hs : (Lit.int .i64 s).wf = true) (hc : (Lit.int .u64 c).wf = true) (hm : m.size ≤ maxLen) (hk' : k'.size ≤ maxLen) (hs' : (Lit.int .i64 s').wf = true) (hc' : (Lit.int .u64 c').wf = true) (hm' : m'.size ≤ maxLen)
    (e : relK k s c m = relK k' s' c' m') : k = k' ∧ s = s' ∧ c = c' ∧ m = m' := by
  have h1 := key37 k s c m hk hs hc hm
  have h2 := key37 k' s' c' m' hk' hs' hc' hm'
  rw [← e] at h2
  have h := law37.inj h1 h2
  simpa [relV] using h

theorem kk_ne {i j : Nat} (hi : i < 1024) (hj : j < 1024) (h : i ≠ j) : kk nm i ≠ kk nm j := by
  intro e
  have := (rel_inj (nm_size i) (wf_nat i (by omega)) (by decide) (by decide) (nm_size j) (wf_nat j (by omega)) (by decide) (by decide) e).2.1
  omega

theorem Freed.fr {R K M L C nL : Nat} {now : Int} {B n : Nat} {v : Value} {kf : Nat → ByteArray} {at_ : Nat → Int} {S : Lit → Prop} {key : ByteArray} {since bc : Int} {bm : ByteArray} {w w' : World} (h : Freed R K M L C nL now B n v kf at_ S key since bc bm w w') : Fr [R, C, L, M, own R v] w w' := by
  obtain ⟨d, v', D', _, _, _, _, _, _, _, _, hf⟩ := h
  exact hf

/-- What holds when i releases have been laid down. -/
structure Laid (w : World) (B0 R K M L C T Pb n : Nat) (at_ : Nat → Int) (now since bc : Int) (bm : ByteArray) (i : Nat) (v : Value) (D : DataW Unit) (wr : World) : Prop where
  rep : Rep wr R K M L C 0 0 v
  row : Row (Pb + 1) wr v i (lapF nm at_)
  rel : wr.ownsMap Yba.prog 37 (plainElem (H := Unit) Yba.prog 4) L i D
  says : Says D (fun l => ∃ j, j < i ∧ l = kk nm j)
  pri : Pri wr Pb n i
  tick : T3 wr T since bc bm
  x0 : wr.cell? ⟨C, 0, none⟩ = some (.int .i64 now)
  x1 : wr.cell? ⟨C, 1, none⟩ = some (.int .i64 0)
  xf : wr.frozen? ⟨C, 1, none⟩ = false
  keys : wr.ownsMap Yba.prog 9 ptrE K 0 (DataW.map [] : DataW Unit)
  marks : wr.ownsMap Yba.prog 9 ptrE M 0 (DataW.map [] : DataW Unit)
  bel : Below B0 w wr

theorem Laid.next {w : World} {B0 R K M L C T Pb n : Nat} {at_ : Nat → Int} {now since bc : Int} {bm : ByteArray} {i : Nat} {v : Value} {D : DataW Unit} {wr w3 w4 w9 : World} {v2 : Value} (hI : Laid w B0 R K M L C T Pb n at_ now since bc bm i v D wr) (hB0 : B0 = w.heap.size)
    (o1 : C < K) (o2 : K < M) (o3 : M < L) (o4 : L < R) (o5 : R < T) (o6 : T < Pb) (oB : B0 ≤ C) (hP4 : Pri w4 Pb n (i + 1)) (f3 : Fr [Pb] wr w3) (f34 : Fr [L] w3 w4) (hL4 : w4.ownsMap Yba.prog 37 (plainElem (H := Unit) Yba.prog 4) L (i + 1) (D.put (kk nm i) (.lit (.bool true)))) (hIs : IsMap D)
    (f9 : Fr [R, own R v] w4 w9) (hR9 : Rep w9 R K M L C 0 0 v) (hrow9 : Row (Pb + 1) w9 v2 (i + 1) (snoc (lapF nm at_) i (lapC (nm i) i 0 ⟨#[]⟩ (at_ i)))) :
    Laid w B0 R K M L C T Pb n at_ now since bc bm (i + 1) v2 (D.put (kk nm i) (.lit (.bool true))) (w9.setCell ⟨R, 17, none⟩ v2) := by
  have hog := (hI.row).own_lt (R := R) (by omega) hI.pri.1
  obtain ⟨og, hogd⟩ : ∃ og, own R v = og := ⟨_, rfl⟩
  rw [hogd] at hog f9
  have fs : Fr [R, og] w4 (w9.setCell ⟨R, 17, none⟩ v2) := f9.trans (Fr.set _ (by simp) _)
  have f : Fr [Pb, L, R, og] wr (w9.setCell ⟨R, 17, none⟩ v2) := ((f3.wide (by simp)).trans (f34.wide (by simp))).trans (fs.wide (by intro b hb; simp only [List.mem_cons, List.not_mem_nil, or_false] at hb ⊢; omega))
  have hbs := hI.bel.size
  refine ⟨hR9.set17 _, Row.congr (Row.keepF hrow9 (Fr.set (bs := [R]) _ (by simp) _) (not_own hrow9 (by omega))) (snoc_lapF nm at_ i), fs.map (by simp only [List.mem_cons, List.not_mem_nil, or_false]; omega) hL4, says_snoc hI.says hIs, hP4.keep fs (by simp only [List.mem_cons, List.not_mem_nil, or_false]; omega),
    hI.tick.keep f (by simp only [List.mem_cons, List.not_mem_nil, or_false]; omega), f.cell (by simp only [List.mem_cons, List.not_mem_nil, or_false]; omega) hI.x0, f.cell (by simp only [List.mem_cons, List.not_mem_nil, or_false]; omega) hI.x1, (f.frozen (b := C) (o := 1) (by simp only [List.mem_cons, List.not_mem_nil, or_false]; omega) (block_lt_of_cell hI.x0)).trans hI.xf,
    f.map (by simp only [List.mem_cons, List.not_mem_nil, or_false]; omega) hI.keys, f.map (by simp only [List.mem_cons, List.not_mem_nil, or_false]; omega) hI.marks, hI.bel.trans (f.under (by intro b hb; simp only [List.mem_cons, List.not_mem_nil, or_false] at hb; omega) (by omega))⟩

set_option maxHeartbeats 3200000 in
theorem law_lapse (a0 : Option Addr) (n cap0 : Nat) (at_ : Nat → Int) (now : Int) (key : ByteArray) (since bc : Int) (bm : ByteArray) (w : World) (hA : Ats w a0 n at_) (hkey : key.size ≤ maxLen) (ws : (Lit.int .i64 since).wf = true) (wb : (Lit.int .u64 bc).wf = true) (hbm : bm.size ≤ maxLen) :
    Calls Yba.prog 3 #[.slice a0 n cap0, .int .i64 now, .string key, .int .i64 since, .int .u64 bc, .string bm] w fun e w' => e = .returned (.bool true) ∧ Below w.heap.size w w' := by
  have HA := (show Hid (Ats w a0 n at_) from hA)
  clear hA
  by_cases hn : 1024 < n
  · have hn' : (1024 : Int) < n := by omega
    go_enter Yba.func3, Yba.ntmps3
    go_wp2
    go_ret
    exact ⟨rfl, Below.refl _ _⟩
  · have hn' : ¬ (1024 : Int) < n := by omega
    go_enter Yba.func3, Yba.ntmps3
    go_wp2_with fail
    obtain ⟨B0, hB0⟩ : ∃ B0, B0 = w.heap.size := ⟨_, rfl⟩
    obtain ⟨w5, hw5⟩ : ∃ w5, w5 = w.alloc (.cells #[.int .i64 now, .int .i64 0] 27) := ⟨_, rfl⟩
    rw [← hw5, ← hB0]
    have bel5 : Below B0 w w5 := by rw [hw5, hB0]; exact (Below.refl _ _).alloc (Nat.le_refl _) _
    have s5 : w5.heap.size = B0 + 1 := by rw [hw5, hB0]; simp
    obtain ⟨C, hC⟩ : ∃ C, C = B0 := ⟨_, rfl⟩
    rw [← hC]
    have x0 : w5.cell? ⟨C, 0, none⟩ = some (.int .i64 now) := by rw [hw5, hC, hB0]; simp
    have x1 : w5.cell? ⟨C, 1, none⟩ = some (.int .i64 0) := by rw [hw5, hC, hB0]; simp
    have xf : w5.frozen? ⟨C, 1, none⟩ = false := by rw [hw5, hC, hB0]; simp
    clear hw5
    refine (new_replica C w5).mono ?_
    rintro e w6 ⟨rfl, b56, s6, hR6, hK6, hM6, hL6⟩
    obtain ⟨R, hR⟩ : ∃ R, R = w5.heap.size + 9 := ⟨_, rfl⟩
    obtain ⟨K, hK⟩ : ∃ K, K = w5.heap.size := ⟨_, rfl⟩
    obtain ⟨M, hM⟩ : ∃ M, M = w5.heap.size + 1 := ⟨_, rfl⟩
    obtain ⟨L, hL⟩ : ∃ L, L = w5.heap.size + 2 := ⟨_, rfl⟩
    rw [← hR, ← hM, ← hL, ← hK] at hR6
    rw [← hK] at hK6
    rw [← hM] at hM6
    rw [← hL] at hL6
    rw [← hR]
    have o1 : C < K ∧ K < M ∧ M < L ∧ L < R ∧ R < w6.heap.size := by omega
    have f56 : Fr [] w5 w6 := Fr.below b56
    have bel6 : Below B0 w w6 := bel5.trans (b56.mono (by omega))
    have xf := (f56.frozen (b := C) (o := 1) (by simp) (block_lt_of_cell x0)).trans xf
    have x0 := f56.cell (by simp) x0
    have x1 := f56.cell (by simp) x1
    have hKo := owns_empty hK6 9 ptrE
    have hMo := owns_empty hM6 9 ptrE
    have hLo := owns_empty hL6 37 (plainElem Yba.prog 4)
    have hCB : B0 ≤ C := by omega
    clear hR hK hM hL hC s5 s6 b56 f56 bel5 hK6 hM6 hL6
    have HX := (show Hid _ from And.intro x0 (And.intro x1 xf))
    clear x0 x1 xf
    clear x0 x1 xf
    obtain ⟨x0, x1, xf⟩ := HX.out
    clear HX
    go_upto_region 6 with fail
    obtain ⟨T, hT⟩ : ∃ T, T = w6.heap.size := ⟨_, rfl⟩
    obtain ⟨w7, hw7⟩ : ∃ w7, w7 = w6.alloc (.cells #[.int .i64 since, .int .u64 bc, .string bm] 33) := ⟨_, rfl⟩
    rw [← hw7, ← hT]
    have f67 : Fr [] w6 w7 := by rw [hw7]; exact Fr.alloc _ _
    have t7 : T3 w7 T since bc bm := by rw [hw7, hT]; exact ⟨by simp, by simp, by simp⟩
    have s7 : w7.heap.size = T + 1 := by rw [hw7, hT]; simp
    have oT : R < T := by omega
    obtain ⟨w8, hmk, hP8, f78⟩ := prior_make n (by omega) w7
    obtain ⟨Pb, hPb⟩ : ∃ Pb, Pb = w7.heap.size := ⟨_, rfl⟩
    rw [← hPb] at hmk hP8
    have oP : T < Pb := by omega
    have f68 : Fr [] w6 w8 := f67.trans f78
    have hI : Laid w B0 R K M L C T Pb n at_ now since bc bm 0 (.slice none 0 0) (DataW.map []) w8 :=
      ⟨hR6.keep f68 (by simp), Or.inl ⟨rfl, rfl⟩, f68.map (by simp) hLo, fun l => ⟨fun h => by obtain ⟨j, hj, _⟩ := h; omega, fun _ => rfl⟩, hP8, t7.keep f78 (by simp), f68.cell (by simp) x0, f68.cell (by simp) x1, (f68.frozen (b := C) (o := 1) (by simp) (block_lt_of_cell x0)).trans xf, f68.map (by simp) hKo, f68.map (by simp) hMo, bel6.trans (f68.under (by simp) (by omega))⟩
    clear hw7 hT f67 t7 s7 f78 hPb f68 hP8 hR6 hLo hKo hMo x0 x1 xf bel6
    go_cut [16] from 38 to 40 (fun v wx => v = .slice (some ⟨Pb, 0, none⟩) n n ∧ w8 = wx)
    case first =>
      go_wp2
      go_meet
      exact ⟨rfl, rfl⟩
    case rest =>
    obtain ⟨rfl, rfl⟩ := hcut
    clear hmk
    have HI := (show Hid _ from hI)
    clear hI
    go_upto_block 0 with fail
    go_cut [17] from 41 to 80 (fun p wx => ∃ v D, Laid w B0 R K M L C T Pb n at_ now since bc bm n v D wx)
    case first =>
      go_wp2_with fail
      go_loopg [17] n (fun k p wr => ∃ (i : Nat) (v : Value) (D : DataW Unit), p = .int .i64 i ∧ k + i = n ∧ Laid w B0 R K M L C T Pb n at_ now since bc bm i v D wr)
      case atStart =>
        exact ⟨0, _, _, rfl, by omega, HI.out⟩
      case round =>
        obtain ⟨i, v, D, rfl, hk, hI⟩ := hrel
        clear HI
        by_cases hi : i < n
        · have hi' : (i : Int) < n := by omega
          go_wp2_with fail
          refine (aname i (by omega) wr).mono ?_
          rintro e w2 ⟨rfl, oo, hw2⟩
          have f2 : Fr [] wr w2 := by rw [hw2]; exact Fr.alloc _ _
          have hP2 := hI.pri.keep f2 (by simp)
          have hsp := hP2.2.1
          have p0 := hsp (i * 4) (by omega)
          have p1 := hsp (i * 4 + 1) (by omega)
          have p2 := hsp (i * 4 + 2) (by omega)
          have p3 := hsp (i * 4 + 3) (by omega)
          obtain ⟨u0, q0⟩ := Option.isSome_iff_exists.1 p0.1
          obtain ⟨u1, q1⟩ := Option.isSome_iff_exists.1 p1.1
          obtain ⟨u2, q2⟩ := Option.isSome_iff_exists.1 p2.1
          obtain ⟨u3, q3⟩ := Option.isSome_iff_exists.1 p3.1
          have z0 := p0.2
          have z1 := p1.2
          have z2 := p2.2
          have z3 := p3.2
          have HI := (show Hid _ from hI)
          have HP2 := (show Hid _ from hP2)
          have HW := (show Hid _ from hw2)
          clear hsp p0 p1 p2 p3 hI hw2 hP2
          go_upto_region 11 with fail
          obtain ⟨w3, hw3⟩ : ∃ w3, w3 = (((w2.setCell ⟨Pb, i * 4, none⟩ (.string (nm i))).setCell ⟨Pb, i * 4 + 1, none⟩ (.int .i64 i)).setCell ⟨Pb, i * 4 + 2, none⟩ (.int .u64 0)).setCell ⟨Pb, i * 4 + 3, none⟩ (.string ⟨#[]⟩) := ⟨_, rfl⟩
          rw [← hw3]
          have hP3 : Pri w3 Pb n (i + 1) := by rw [hw3]; exact Pri.step HP2.out hi
          have f3 : Fr [Pb] wr w3 := by rw [hw3]; exact (f2.wide (by simp)).trans ((((Fr.set _ (by simp) _).trans (Fr.set _ (by simp) _)).trans (Fr.set _ (by simp) _)).trans (Fr.set _ (by simp) _))
          clear hw3 HP2 HW f2 q0 q1 q2 q3 z0 z1 z2 z3
          have hog := (HI.out.row).own_lt (R := R) (by omega) HI.out.pri.1
          have hR3 := HI.out.rep.keep f3 (by simp; omega)
          have hL3 := f3.map (by simp; omega) HI.out.rel
          have hrw3 := Row.keepF HI.out.row f3 (not_own HI.out.row (by omega))
          obtain ⟨p0, p1, p2, p3⟩ := hP3.2.2 i (by omega)
          have lP := hP3.1
          have g16 := hR3.c16
          obtain ⟨w4, hup, hL4, hg4⟩ := (hL3.drew).update law37 Yba.underlying60 (by unfold maxLen; omega) (kk_key nm i (nm_size i) (by omega)) (plainElem_bool Yba.underlying4 true)
          have f34 : Fr [L] w3 w4 := (Fr.drewN w3 1).trans (Fr.grown hg4 (by simp))
          have hIs : IsMap D := hL3.isMap
          have HF3 := (show Hid _ from f3)
          have HP3 := (show Hid (Pri w3 Pb n (i + 1)) from hP3)
          have HL4 := (show Hid _ from hL4)
          have lR : R < w3.heap.size := block_lt_of_cell g16
          clear hL4 hP3 f3 hg4 hL3
          go_cut [] from 55 to 62 (fun wx => w4 = wx)
          case first =>
            refine wp_calm ?_
            go_region
            all_goals (refine calm_mk ?_; go_wp2; go_meet; exact rfl)
          case rest =>
          obtain rfl := hcut
          clear hup g16 lR lP
          have hR4 := hR3.keep f34 (by simp; omega)
          have hP4 := HP3.out.keep f34 (by simp; omega)
          have hrw4 := Row.keepF hrw3 f34 (not_own hrw3 (by omega))
          have bel4 : Below B0 w w4 := HI.out.bel.trans ((HF3.out.under (by simp; omega) (by have := HI.out.bel.size; omega)).trans (f34.under (by simp; omega) (by have := HI.out.bel.size; have := HF3.out.size; omega)))
          have hA4 := HA.out.keep (hB0 ▸ bel4)
          obtain ⟨x, hx, ha⟩ := hA4 i hi
          obtain ⟨p0, p1, p2, p3⟩ := hP4.2.2 i (by omega)
          have lP := hP4.1
          have g17 := hR4.c17
          have lR : R < w4.heap.size := block_lt_of_cell g17
          have hRn : R ∉ v.ownBlock.toList := by
            intro hb
            exact not_own hrw4 (R := R) (by omega) R (Option.mem_toList.1 hb) (by simp)
          have HF4 := (show Hid _ from f34)
          have HP4 := (show Hid (Pri w4 Pb n (i + 1)) from hP4)
          have HB4 := (show Hid _ from bel4)
          have HX := (show Hid _ from hx)
          subst hx
          clear hP4 hA4 bel4 f34 hR3 hrw3
          go_upto_region 12 with fail
          go_region_law (refine step_app rfl (.tmp 67) (.tmp 77) rfl (Pb + 1) v i (lapF nm at_) rfl (Row.keepF hrw4 (bs := []) (by first | exact (Fr.alloc _ _).drew | exact (Fr.drewN _ 1).trans (Fr.alloc _ _)) (by simp)) (by simp; omega) (by omega) ⟨w4.heap.size, 0, none⟩ 1 (lapC (nm i) i 0 ⟨#[]⟩ (at_ i)) rfl (lapC_cells (by simp) (by simp) (by simp) (by simp) (by simp)) lapC_one ?_; intro v2 w9 hrow9 hgr9; obtain ⟨a2, c2, rfl⟩ := hrow9.slice; have f89 : Fr v.ownBlock.toList w4 w9 := Fr.trans (by first | exact (Fr.alloc _ _).drew | exact (Fr.drewN _ 1).trans (Fr.alloc _ _)) (grownO hgr9 (fun b hb => Option.mem_toList.2 hb)); have hR9 := hR4.keep f89 hRn; have g17' := hR9.c17; have gf17' := hR9.f17)
          all_goals
            have f9 : Fr [R, own R v] w4 w9 := f89.wide (by intro b hb; have hb := Option.mem_toList.1 hb; rw [own_mem (R := R) rfl hb]; simp)
            go_wp2
            go_roundg (gk - 1)
            case measure => omega
            case rel =>
              refine ⟨i + 1, _, _, by simp, by omega, Laid.next HI.out hB0 (by omega) (by omega) (by omega) (by omega) oT oP hCB HP4.out HF3.out HF4.out HL4.out hIs f9 hR9 hrow9⟩
        · have e : n = i := by omega
          have HI := (show Hid (Laid w B0 R K M L C T Pb n at_ now since bc bm i v D wr) from hI)
          have hii : ¬ (i : Int) < n := by omega
          have HE := (show Hid (n = i) from e)
          clear hI e hk
          go_wp2
          go_meet
          refine ⟨v, D, ?_⟩
          have h := HI.out
          rw [← HE.out] at h
          exact h
    case rest =>
    obtain ⟨v, D, hI⟩ := hcut
    obtain ⟨wq, hwq⟩ : ∃ wq, wq = wc := ⟨_, rfl⟩
    rw [← hwq] at hI ⊢
    clear hwq HI
    have HI := (show Hid (Laid w B0 R K M L C T Pb n at_ now since bc bm n v D wq) from hI)
    clear hI
    go_upto_block 2 with fail
    go_cut [18] from 81 to 94 (fun p wx => ∃ j : Nat, p = .int .i64 j ∧ j ≤ n ∧ (∀ t, t < j → at_ t < now) ∧ (j < n → ¬ at_ j < now) ∧ wq = wx)
    case first =>
      go_wp2_with fail
      go_loopg [18] n (fun k p wx => ∃ j : Nat, p = .int .i64 j ∧ k + j = n ∧ (∀ t, t < j → at_ t < now) ∧ wq = wx)
      case atStart =>
        exact ⟨0, rfl, by omega, fun t ht => by omega, rfl⟩
      case round =>
        obtain ⟨j, rfl, hk, hat, rfl⟩ := hrel
        have HT := (show Hid (∀ t, t < j → at_ t < now) from hat)
        clear hat
        by_cases hj : j < n
        · have hj' : (j : Int) < n := by omega
          obtain ⟨x, hx, ha⟩ := (HA.out.keep (hB0 ▸ HI.out.bel)) j hj
          subst hx
          by_cases hx : at_ j < now
          · go_wp2
            go_roundg (gk - 1)
            case measure => omega
            case rel =>
              refine ⟨j + 1, by simp, by omega, fun t ht => ?_, rfl⟩
              by_cases e : t = j
              · rw [e]; exact hx
              · exact HT.out t (by omega)
          · go_wp2
            go_meet
            exact ⟨j, rfl, by omega, HT.out, fun _ => by omega, rfl⟩
        · have hj' : ¬ (j : Int) < n := by omega
          go_wp2
          go_meet
          exact ⟨j, rfl, by omega, HT.out, fun h => absurd h hj, rfl⟩
    case rest =>
    obtain ⟨j, rfl, hjn, hat, hlast, rfl⟩ := hcut
    have hIx := HI.out
    have fd : Fr [] wq wq.drew := (Fr.refl _ wq).drew
    have hog := (hIx.row).own_lt (R := R) (by omega) hIx.pri.1
    obtain ⟨og, hogd⟩ : ∃ og, own R v = og := ⟨_, rfl⟩
    rw [hogd] at hog
    have hrel := release_free R K M L C 0 n (Pb + 1) n (DataW.map []) D key since bc bm now v nm at_ (fun l => ∃ j, j < n ∧ l = kk nm j) wq.drew (hIx.rep.keep fd (by simp)) (Row.keepF hIx.row fd (by simp)) (by omega) (by omega) (by omega) (by omega) (by omega) hIx.pri.1 nm_size (by omega) hkey hIx.x0 hIx.x1 hIx.xf (fd.map (by simp) hIx.marks) (fd.map (by simp) hIx.rel) hIx.says (fd.map (by simp) hIx.keys) (fun _ => rfl) (by unfold maxLen; omega) ws wb hbm
    have y0 := hIx.tick.c0
    have y1 := hIx.tick.c1
    have y2 := hIx.tick.c2
    have hTn : T ∉ [R, C, L, M, own R v] := by rw [hogd]; simp only [List.mem_cons, List.not_mem_nil, or_false]; omega
    have HAT := (show Hid (∀ t, t < j → at_ t < now) from hat)
    have HLA := (show Hid (j < n → ¬ at_ j < now) from hlast)
    have HTK := (show Hid _ from hIx.tick)
    clear hIx hat hlast fd
    go_upto_region 16 with fail
    go_cut [19] from 95 to 99 (fun e wx => e = .nilIface ∧ Freed R K M L C n now (Pb + 1) n v nm at_ (fun l => ∃ j, j < n ∧ l = kk nm j) key since bc bm wq.drew wx)
    case first =>
      go_region_held3 (fun w' => w'.cell? ⟨T, 0, none⟩ = some (.int .i64 since) ∧ w'.cell? ⟨T, 1, none⟩ = some (.int .u64 bc) ∧ w'.cell? ⟨T, 2, none⟩ = some (.string bm)) (refine ⟨?_, ?_, ?_⟩ <;> first | assumption | exact y0 | exact y1 | exact y2)
        (first
          | (go_at_call 11; refine (background _).mono ?_; rintro e w' ⟨rfl, rfl⟩)
          | (go_at_call 10; refine hrel.mono ?_; rintro e w' ⟨rfl, hfr⟩; have hf' := hfr.fr; have t' := HTK.out.keep ((Fr.refl _ wq).drew.trans hf') hTn; have q0 := t'.c0; have q1 := t'.c1; have q2 := t'.c2))
      go_wp2
      go_meet
      exact ⟨rfl, hfr⟩
    case rest =>
    obtain ⟨rfl, d, v', D', hdn, hdat, hdl, hRz, hrwz, hLz, hSz, hCz, fz⟩ := hcut
    obtain ⟨wz, hwz⟩ : ∃ wz, wz = wc := ⟨_, rfl⟩
    rw [← hwz] at hRz hrwz hLz hCz fz ⊢
    have hdj : d = j := by
      have h1 := HAT.out
      have h2 := HLA.out
      rcases Nat.lt_trichotomy d j with h | h | h
      · exact absurd (h1 d h) (hdl (by omega))
      · exact h
      · exact absurd (hdat j h) (h2 (by omega))
    subst hdj
    rw [hogd] at fz
    have fz' : Fr [R, C, L, M, og] wq wz := ((Fr.refl _ wq).drew).trans fz
    have belz : Below B0 w wz := HI.out.bel.trans (fz'.under (by intro b hb; simp only [List.mem_cons, List.not_mem_nil, or_false] at hb; omega) (by have := HI.out.bel.size; omega))
    have tz := HTK.out.keep fz' (by simp only [List.mem_cons, List.not_mem_nil, or_false]; omega)
    have hPz := HI.out.pri.keep fz' (by simp only [List.mem_cons, List.not_mem_nil, or_false]; omega)
    have hAz := HA.out.keep (hB0 ▸ belz)
    have HS := (show Hid (Says D' (fun l => ((∃ j, j < n ∧ l = kk nm j) ∧ ∀ i, i < d → l ≠ kk nm i) ∨ l = relK key since bc bm)) from hSz)
    obtain ⟨g, o, cap, rfl, hBg, hgl, hcap, hmx, hcell, hsp⟩ : ∃ g o cap, v' = .slice (some ⟨g, o, none⟩) (n - d + 1) cap ∧ Pb + 1 ≤ g ∧ g < wz.heap.size ∧ n - d + 1 ≤ cap ∧ cap ≤ maxLen ∧ (∀ i q, i < n - d + 1 → q < 5 → wz.cell? ⟨g, o + (5 * i + q), none⟩ = some (snoc (fun i => lapF nm at_ (i + d)) (n - d) (lapC key since bc bm (wrap64 (now + 400000000))) i q)) ∧
          ∀ j, j < cap * 5 → (wz.cell? ⟨g, o + j, none⟩).isSome = true ∧ wz.frozen? ⟨g, o + j, none⟩ = false := by
      rcases hrwz with h | h
      · omega
      · exact h
    have HC := (show Hid (∀ i q, i < n - d + 1 → q < 5 → wz.cell? ⟨g, o + (5 * i + q), none⟩ = some (snoc (fun i => lapF nm at_ (i + d)) (n - d) (lapC key since bc bm (wrap64 (now + 400000000))) i q)) from hcell)
    have HAZ := (show Hid (Ats wz a0 n at_) from hAz)
    have HPZ := (show Hid (Pri wz Pb n n) from hPz)
    have HTZ := (show Hid (T3 wz T since bc bm) from tz)
    have HBZ := (show Hid (Below B0 w wz) from belz)
    have g17 := hRz.c17
    have hlen : ((n : Int) - (d : Int) + 1) = ((n - d + 1 : Nat) : Int) := by omega
    clear hwz hdat hdl fz fz' belz tz hPz hAz hSz hcell hsp hrwz hrel y0 y1 y2 hTn HAT HLA HTK HI HA hog hogd
    go_upto_block 4 with fail
    go_cut [20] from 119 to 156 (fun p wx => Fr [] wz wx)
    case first =>
      go_wp2_with fail
      go_loopg [20] (n - d) (fun k p wx => ∃ i : Nat, p = .int .i64 i ∧ k + i = n ∧ d ≤ i ∧ Fr [] wz wx)
      case atStart =>
        exact ⟨d, rfl, by omega, by omega, Fr.refl _ _⟩
      case round =>
        obtain ⟨i, rfl, hk, hdi, fx⟩ := hrel
        by_cases hi : i < n
        · have hi' : (i : Int) < n := by omega
          obtain ⟨t, ht⟩ : ∃ t, i = d + t := ⟨i - d, by omega⟩
          have hsub : (i : Int) - (d : Int) = (t : Int) := by omega
          have htl : t < n - d + 1 := by omega
          have htl' : (t : Int) < ((n - d + 1 : Nat) : Int) := by omega
          have hsn : ∀ q, q < 5 → wr.cell? ⟨g, o + t * 5 + q, none⟩ = some (lapF nm at_ i q) := by
            intro q hq
            refine fx.cell (by simp) ?_
            have h := HC.out t q (by omega) hq
            rw [show o + t * 5 + q = o + (5 * t + q) by omega, h]
            unfold snoc
            rw [if_pos (by omega)]
            show some (lapF nm at_ (t + d) q) = _
            rw [show t + d = i by omega]
          have c0 : wr.cell? ⟨g, o + t * 5, none⟩ = some (.string (nm i)) := hsn 0 (by omega)
          have c1 : wr.cell? ⟨g, o + t * 5 + 1, none⟩ = some (.int .i64 i) := hsn 1 (by omega)
          have c2 : wr.cell? ⟨g, o + t * 5 + 2, none⟩ = some (.int .u64 0) := hsn 2 (by omega)
          have c3 : wr.cell? ⟨g, o + t * 5 + 3, none⟩ = some (.string ⟨#[]⟩) := hsn 3 (by omega)
          have c4 : wr.cell? ⟨g, o + t * 5 + 4, none⟩ = some (.int .i64 (at_ i)) := hsn 4 (by omega)
          obtain ⟨p0, p1, p2, p3⟩ := (HPZ.out.keep fx (by simp)).2.2 i hi
          obtain ⟨x, hx, ha0⟩ := HAZ.out i hi
          subst hx
          have ha : wr.cell? (x.add i) = some (.int .i64 (at_ i)) := (World.cell?_of_block (a := x.add i) (fx.block _ (cell_lt ha0) (by simp))).trans ha0
          have g17r := fx.cell (b := R) (o := 17) (by simp) g17
          have HH := (show Hid (i = d + t) from ht)
          have HFX := (show Hid (Fr [] wz wr) from fx)
          clear hsn ht ha0 fx
          go_upto_region 26 with fail
          go_quiet (fail)
          go_wp2
          go_roundg (gk - 1)
          case measure => omega
          case rel =>
            exact ⟨i + 1, by simp, by omega, by omega, HFX.out.trans (Fr.drewN _ _)⟩
        · have hi' : ¬ (i : Int) < n := by omega
          go_wp2
          go_meet
          exact fx
    case rest =>
    have fy := hcut
    obtain ⟨wy, hwy⟩ : ∃ wy, wy = wc := ⟨_, rfl⟩
    rw [← hwy] at fy ⊢
    have tyy := HTZ.out.keep fy (by simp)
    have hRy := hRz.keep fy (by simp)
    have hLy := fy.map (by simp) hLz
    have hPy := HPZ.out.keep fy (by simp)
    have bely : Below B0 w wy := HBZ.out.trans (fy.under (by simp) (by have := HBZ.out.size; omega))
    obtain ⟨m, hm⟩ : ∃ m, m = n - d := ⟨_, rfl⟩
    rw [← hm] at hRy
    have hlc : ∀ q, q < 5 → wy.cell? ⟨g, o + m * 5 + q, none⟩ = some (lapC key since bc bm (wrap64 (now + 400000000)) q) := by
      intro q hq
      refine fy.cell (by simp) ?_
      have h := HC.out m q (by omega) hq
      rw [show o + m * 5 + q = o + (5 * m + q) by omega, h]
      unfold snoc
      rw [if_neg (by omega)]
    have HM := (show Hid (m = n - d) from hm)
    have hm1 : m ≤ 1024 := by omega
    clear hm hwy hcut hlen g17 hRz hLz HTZ HPZ HBZ HC HAZ hCz
    have y0 := tyy.c0
    have y1 := tyy.c1
    have y2 := tyy.c2
    go_upto_region 29 with fail
    obtain ⟨Nb, hNb⟩ : ∃ Nb, Nb = wy.heap.size := ⟨_, rfl⟩
    obtain ⟨w1, hw1⟩ : ∃ w1, w1 = wy.alloc (.cells #[.string key, .int .i64 since, .int .u64 bc, .string bm] 37) := ⟨_, rfl⟩
    rw [← hw1, ← hNb]
    have f1 : Fr [] wy w1 := by rw [hw1]; exact Fr.alloc _ _
    have n0 : w1.cell? ⟨Nb, 0, none⟩ = some (.string key) := by rw [hw1, hNb]; simp
    have n1 : w1.cell? ⟨Nb, 1, none⟩ = some (.int .i64 since) := by rw [hw1, hNb]; simp
    have n2 : w1.cell? ⟨Nb, 2, none⟩ = some (.int .u64 bc) := by rw [hw1, hNb]; simp
    have n3 : w1.cell? ⟨Nb, 3, none⟩ = some (.string bm) := by rw [hw1, hNb]; simp
    have hR1 := hRy.keep f1 (by simp)
    have hL1 := f1.map (by simp) hLy
    have hP1 := hPy.keep f1 (by simp)
    have bel1 : Below B0 w w1 := bely.trans (f1.under (by simp) (by have := bely.size; omega))
    have c0 : w1.cell? ⟨g, o + m * 5, none⟩ = some (.string key) := f1.cell (by simp) (hlc 0 (by omega))
    have c1 : w1.cell? ⟨g, o + m * 5 + 1, none⟩ = some (.int .i64 since) := f1.cell (by simp) (hlc 1 (by omega))
    have c2 : w1.cell? ⟨g, o + m * 5 + 2, none⟩ = some (.int .u64 bc) := f1.cell (by simp) (hlc 2 (by omega))
    have c3 : w1.cell? ⟨g, o + m * 5 + 3, none⟩ = some (.string bm) := f1.cell (by simp) (hlc 3 (by omega))
    have c4 : w1.cell? ⟨g, o + m * 5 + 4, none⟩ = some (.int .i64 (wrap64 (now + 400000000))) := f1.cell (by simp) (hlc 4 (by omega))
    have g17 := hR1.c17
    have lR : R < w1.heap.size := block_lt_of_cell g17
    have lg : g < w1.heap.size := block_lt_of_cell c0
    clear hw1 hNb hlc y0 y1 y2 tyy hRy hLy hPy bely
    go_cut [22] from 160 to 171 (fun v wx => v = .pointer (some ⟨w1.heap.size, 0, none⟩) ∧ wx = (w1.alloc (.cells #[.string key, .int .i64 since, .int .u64 bc, .string bm, .int .i64 (wrap64 (now + 400000000))] 111)).drew)
    case first =>
      go_region
      all_goals (go_wp2; go_meet; exact ⟨rfl, rfl⟩)
    case rest =>
    obtain ⟨rfl, rfl⟩ := hcut
    obtain ⟨Lb, hLb⟩ : ∃ Lb, Lb = w1.heap.size := ⟨_, rfl⟩
    obtain ⟨w2, hw2⟩ : ∃ w2, w2 = (w1.alloc (.cells #[.string key, .int .i64 since, .int .u64 bc, .string bm, .int .i64 (wrap64 (now + 400000000))] 111)).drew := ⟨_, rfl⟩
    rw [← hw2, ← hLb]
    have f2 : Fr [] w1 w2 := by rw [hw2]; exact (Fr.alloc _ _).drew
    have l0 : w2.cell? ⟨Lb, 0, none⟩ = some (.string key) := by rw [hw2, hLb]; simp
    have l1 : w2.cell? ⟨Lb, 1, none⟩ = some (.int .i64 since) := by rw [hw2, hLb]; simp
    have l2 : w2.cell? ⟨Lb, 2, none⟩ = some (.int .u64 bc) := by rw [hw2, hLb]; simp
    have l3 : w2.cell? ⟨Lb, 3, none⟩ = some (.string bm) := by rw [hw2, hLb]; simp
    have l4 : w2.cell? ⟨Lb, 4, none⟩ = some (.int .i64 (wrap64 (now + 400000000))) := by rw [hw2, hLb]; simp
    have n0 := f2.cell (by simp) n0
    have n1 := f2.cell (by simp) n1
    have n2 := f2.cell (by simp) n2
    have n3 := f2.cell (by simp) n3
    have hR2 := hR1.keep f2 (by simp)
    have hL2 := f2.map (by simp) hL1
    have hP2 := hP1.keep f2 (by simp)
    have bel2 : Below B0 w w2 := bel1.trans (f2.under (by simp) (by have := bel1.size; omega))
    have g18 := hR2.c18
    clear hw2 hLb c0 c1 c2 c3 c4 g17 lR lg hR1 hL1 hP1 bel1 f1 f2
    go_upto_region 30 with fail
    go_cut [186] from 172 to 186 (fun t wx => t = .bool false ∧ ∃ nq, wx = w2.drewN nq)
    case first =>
      go_quiet (fail)
      go_wp2
      go_meet
      exact ⟨rfl, _, rfl⟩
    case rest =>
    obtain ⟨rfl, nq, rfl⟩ := hcut
    obtain ⟨w3, hw3⟩ : ∃ w3, w3 = w2.drewN nq := ⟨_, rfl⟩
    rw [← hw3]
    have f3 : Fr [] w2 w3 := by rw [hw3]; exact Fr.drewN _ _
    have n0 := f3.cell (by simp) n0
    have n1 := f3.cell (by simp) n1
    have n2 := f3.cell (by simp) n2
    have n3 := f3.cell (by simp) n3
    have hR3 := hR2.keep f3 (by simp)
    have hL3 := f3.map (by simp) hL2
    have hP3 := hP2.keep f3 (by simp)
    have bel3 : Below B0 w w3 := bel2.trans (f3.under (by simp) (by have := bel2.size; omega))
    clear hw3 l0 l1 l2 l3 l4 g18 hR2 hL2 hP2 bel2 f3
    go_upto_block 6 with fail
    go_cut [23] from 187 to 222 (fun p wx => Fr [] w3 wx)
    case first =>
      go_wp2_with fail
      go_loopg [23] n (fun k p wx => ∃ i : Nat, p = .int .i64 i ∧ k + i = n ∧ Fr [] w3 wx)
      case atStart =>
        exact ⟨0, rfl, by omega, Fr.refl _ _⟩
      case round =>
        obtain ⟨i, rfl, hk, fx⟩ := hrel
        have HFX := (show Hid (Fr [] w3 wr) from fx)
        by_cases hi : i < n
        · have hi' : (i : Int) < n := by omega
          obtain ⟨p0, p1, p2, p3⟩ := (hP3.keep fx (by simp)).2.2 i hi
          have g16 := (hR3.keep fx (by simp)).c16
          have n0 := fx.cell (by simp) n0
          have n1 := fx.cell (by simp) n1
          have n2 := fx.cell (by simp) n2
          have n3 := fx.cell (by simp) n3
          have hLx := fx.map (by simp) hL3
          by_cases hid : i < d
          · have hid' : (i : Int) < d := by omega
            by_cases e : kk nm i = relK key since bc bm
            · have hlook := look_rel hLx ((HS.out _).1 (Or.inr e)) (nm_size i) (wf_nat i (by omega)) (by decide) (by decide)
              obtain ⟨e1, e2, e3, e4⟩ := rel_inj (nm_size i) (wf_nat i (by omega)) (by decide) (by decide) hkey ws wb hbm e
              have HE := (show Hid (kk nm i = relK key since bc bm) from e)
              clear e fx hLx HE
              subst e1 e2 e3 e4
              go_upto_region 36 with fail
              go_quiet (fail)
              go_wp2
              go_roundg (gk - 1)
              case measure => omega
              case rel =>
                exact ⟨i + 1, by simp, by omega, HFX.out.trans (Fr.drewN _ _)⟩
            · have hlook := look_rel hLx ((HS.out (kk nm i)).2 (fun h => h.elim (fun h => h.2 i hid rfl) e)) (nm_size i) (wf_nat i (by omega)) (by decide) (by decide)
              clear e fx hLx
              go_upto_region 36 with fail
              go_quiet (fail)
              go_wp2
              go_roundg (gk - 1)
              case measure => omega
              case rel =>
                exact ⟨i + 1, by simp, by omega, HFX.out.trans (Fr.drewN _ _)⟩
          · have hid' : ¬ (i : Int) < d := by omega
            have hlook := look_rel hLx ((HS.out (kk nm i)).1 (Or.inl ⟨⟨i, hi, rfl⟩, fun t ht => kk_ne (by omega) (by omega) (by omega)⟩)) (nm_size i) (wf_nat i (by omega)) (by decide) (by decide)
            clear fx hLx
            go_upto_region 38 with fail
            go_quiet (fail)
            go_wp2
            go_roundg (gk - 1)
            case measure => omega
            case rel =>
              exact ⟨i + 1, by simp, by omega, HFX.out.trans (Fr.drewN _ _)⟩
        · have hi' : ¬ (i : Int) < n := by omega
          go_wp2
          go_meet
          exact HFX.out
    case rest =>
    have f4 := hcut
    obtain ⟨w4, hw4⟩ : ∃ w4, w4 = wc := ⟨_, rfl⟩
    rw [← hw4] at f4 ⊢
    have g16 := (hR3.keep f4 (by simp)).c16
    have n0 := f4.cell (by simp) n0
    have n1 := f4.cell (by simp) n1
    have n2 := f4.cell (by simp) n2
    have n3 := f4.cell (by simp) n3
    have hlook := look_rel (f4.map (by simp) hL3) ((HS.out _).1 (Or.inr rfl)) hkey ws wb hbm
    have bel4 : Below B0 w w4 := bel3.trans (f4.under (by simp) (by have := bel3.size; omega))
    have HB4 := (show Hid (Below B0 w w4) from bel4)
    clear hw4 hcut f4 hL3 hP3 hR3 bel3 bel4
    go_upto_region 40 with fail
    go_quiet (fail)
    go_wp2
    go_ret
    exact ⟨rfl, hB0 ▸ (HB4.out.trans (Fr.under (bs := []) (Fr.drewN _ _) (by simp) (by have := HB4.out.size; omega)))⟩

end Go.Proofs.Ybulkaixg.Lapse
