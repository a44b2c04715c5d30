/-
  (*waitOrder).rebuild (10).
-/
import Derived.Test.YbulkaixuInit
namespace Go.Proofs.Ybulkaixu.Cnt
open Go.RowKit
set_option linter.unusedVariables false
set_option linter.unusedSimpArgs false
set_option maxRecDepth 100000

/-- append of one wait where there is room, in a plain region. -/
theorem wpList_app5 {ops : Array Oper} {rest : List Oper} {o : Oper} {a : Act} {w : World} {Q : Exit → Act → World → Prop}
    (hg : o.guard = none) (s x : Operand) (hop : o.op = Op.call { callee := Callee.builtin Builtin.append, args := #[s, x], argTypes := #[27, 27] })
    (g n cap : Nat) (hs : a.eval s = .slice (some ⟨g, 0, none⟩) n cap) (ad : Addr) (k : Nat) (news : List Value) (hx : a.eval x = .slice (some ad) 1 k) (hn : news.length = 5)
    (hc : ∀ j u, news[j]? = some u → w.cell? (ad.add j) = some u) (h1c : ∀ u ∈ news, u.oneCell' = true) (hroom : n + 1 ≤ cap) (hsp : ∀ j, j < cap * 5 → (w.cell? ⟨g, j, none⟩).isSome = true ∧ w.frozen? ⟨g, j, none⟩ = false)
    (hK : wpList Yba.prog ops Q rest (a.put o.dst (.slice (some ⟨g, 0, none⟩) (n + 1) cap)) (w.setCells g (n * 5) news)) : wpList Yba.prog ops Q (o :: rest) a w := by
  obtain ⟨i, z, hi, hz, his, _, _⟩ := info40
  refine wpList_plain hg fun K hK' => ?_
  have hrun := run_append_room_cells (P := Yba.prog) w 27 o.type 40 i Yba.underlying27 hi g 0 n cap ad 1 k news (by rw [his]; omega) hc h1c hroom (fun j hj => by rw [his, Nat.zero_add]; exact (hsp (n * 5 + j) (by omega)).1) (fun j hj => by rw [his, Nat.zero_add]; exact (hsp (n * 5 + j) (by omega)).2)
  rw [his, Nat.zero_add] at hrun
  unfold Oper.wp
  simp [execOp, hop, resolve, invoke, builtin, hs, hx, hrun, Result.andThen]
  exact hK' _ _ hK

/-- What holds when t waits have been looked at: fl are those kept. -/
structure RI (w : World) (g head cap : Nat) (its : List Nat) (sb : Nat → Nat) (t : Nat) (fl : List Nat) (wr : World) : Prop where
  done : ∀ s i, fl[s]? = some i → ∀ q, q < 5 → wr.cell? ⟨g, s * 5 + q, none⟩ = some (elem sb i q)
  todo : ∀ u i, t ≤ u → its[u]? = some i → ∀ q, q < 5 → wr.cell? ⟨g, (head + u) * 5 + q, none⟩ = some (elem sb i q)
  sp : ∀ j, j < cap * 5 → (wr.cell? ⟨g, j, none⟩).isSome = true ∧ wr.frozen? ⟨g, j, none⟩ = false
  lg : g < wr.heap.size
  fr : Fr [g] w wr

theorem RI.keep {w : World} {g head cap : Nat} {its : List Nat} {sb : Nat → Nat} {t : Nat} {fl : List Nat} {wr w' : World} (h : RI w g head cap its sb t fl wr) (hf : Fr [] wr w') : RI w g head cap its sb t fl w' := by
  have eg : w'.heap[g]? = wr.heap[g]? := hf.block g h.lg (by simp)
  exact ⟨fun s i hs q hq => hf.cell (by simp) (h.done s i hs q hq), fun u i hu hi q hq => hf.cell (by simp) (h.todo u i hu hi q hq),
    fun j hj => ⟨by rw [World.cell?_of_block (a := ⟨g, j, none⟩) eg]; exact (h.sp j hj).1, by rw [World.frozen?_of_block (a := ⟨g, j, none⟩) eg]; exact (h.sp j hj).2⟩,
    Nat.lt_of_lt_of_le h.lg hf.size, h.fr.trans (hf.wide (by simp))⟩

theorem RI.skip {w : World} {g head cap : Nat} {its : List Nat} {sb : Nat → Nat} {t : Nat} {fl : List Nat} {wr : World} (h : RI w g head cap its sb t fl wr) : RI w g head cap its sb (t + 1) fl wr :=
  ⟨h.done, fun u i hu hi q hq => h.todo u i (by omega) hi q hq, h.sp, h.lg, h.fr⟩

theorem RI.take {w : World} {g head cap : Nat} {its : List Nat} {sb : Nat → Nat} {t i : Nat} {fl : List Nat} {wr : World} (h : RI w g head cap its sb t fl wr) (hft : fl.length ≤ t) (hcap : head + t + 1 ≤ cap) :
    RI w g head cap its sb (t + 1) (fl ++ [i]) (wr.setCells g (fl.length * 5) [elem sb i 0, elem sb i 1, elem sb i 2, elem sb i 3, elem sb i 4]) := by
  have f : Fr [g] wr (wr.setCells g (fl.length * 5) [elem sb i 0, elem sb i 1, elem sb i 2, elem sb i 3, elem sb i 4]) := Fr.grown (grown_setCells g _ _ wr) (by simp)
  refine ⟨?_, ?_, sp_setCells h.sp _ _, Nat.lt_of_lt_of_le h.lg f.size, h.fr.trans f⟩
  · intro s j hs q hq
    by_cases e : s < fl.length
    · rw [List.getElem?_append_left e] at hs
      rw [World.cell?_setCells_out g _ _ _ _ (by intro _ _; left; simp; omega)]
      exact h.done s j hs q hq
    · have hsl := (List.getElem?_eq_some_iff.1 hs).1
      simp at hsl
      obtain rfl : s = fl.length := by omega
      simp at hs
      subst hs
      have hin := World.cell?_setCells_in g [elem sb i 0, elem sb i 1, elem sb i 2, elem sb i 3, elem sb i 4] (fl.length * 5) wr (by
        intro j hj
        simp at hj
        exact (h.sp (fl.length * 5 + j) (by omega)).1) q (by simpa using hq)
      rw [hin]
      match q, hq with
      | 0, _ => rfl
      | 1, _ => rfl
      | 2, _ => rfl
      | 3, _ => rfl
      | 4, _ => rfl
  · intro u j hu hj q hq
    rw [World.cell?_setCells_out g _ _ _ _ (by intro _ _; right; simp; omega)]
    exact h.todo u j (by omega) hj q hq

theorem elems_at (sb : Nat → Nat) (i N : Nat) (w : World) (h : ∀ q, q < 5 → w.cell? ⟨N, q, none⟩ = some (elem sb i q)) : ∀ j u, [elem sb i 0, elem sb i 1, elem sb i 2, elem sb i 3, elem sb i 4][j]? = some u → w.cell? ((⟨N, 0, none⟩ : Addr).add j) = some u := by
  intro j u hu
  rw [Addr.add_lit, Nat.zero_add]
  match j with
  | 0 => simp at hu; subst hu; exact h 0 (by omega)
  | 1 => simp at hu; subst hu; exact h 1 (by omega)
  | 2 => simp at hu; subst hu; exact h 2 (by omega)
  | 3 => simp at hu; subst hu; exact h 3 (by omega)
  | 4 => simp at hu; subst hu; exact h 4 (by omega)
  | j + 5 => simp at hu

theorem filter_take_le (lvf : Nat → Bool) (its : List Nat) (t : Nat) : ((its.take t).filter lvf).length ≤ t := by
  have h1 := List.length_filter_le lvf (its.take t)
  have h2 := List.length_take_le t its
  omega

theorem new_cells (sb : Nat → Nat) (i : Nat) (w : World) : ∀ q, q < 5 → (w.alloc (.cells #[.int .u64 0, .int .i64 0, .pointer none, .int .u64 ((i : Int) + 1), .pointer (some ⟨sb i, 0, none⟩)] 40)).cell? ⟨w.heap.size, q, none⟩ = some (elem sb i q) := by
  intro q hq
  match q, hq with
  | 0, _ => simp [elem]
  | 1, _ => simp [elem]
  | 2, _ => simp [elem]
  | 3, _ => simp [elem]
  | 4, _ => simp [elem]

theorem five_one (sb : Nat → Nat) (i : Nat) : ∀ u ∈ [elem sb i 0, elem sb i 1, elem sb i 2, elem sb i 3, elem sb i 4], u.oneCell' = true := by
  intro u hu
  simp only [List.mem_cons, List.not_mem_nil, or_false] at hu
  rcases hu with rfl | rfl | rfl | rfl | rfl <;> exact elem_one _ _ _

theorem take_filter_yes {its : List Nat} {t i : Nat} {lvf : Nat → Bool} (h : its[t]? = some i) (hl : lvf i = true) : (its.take (t + 1)).filter lvf = (its.take t).filter lvf ++ [i] := by
  obtain ⟨hlt, he⟩ := List.getElem?_eq_some_iff.1 h
  rw [List.take_succ_eq_append_getElem hlt, List.filter_append, he]
  simp [hl]
theorem take_filter_no {its : List Nat} {t i : Nat} {lvf : Nat → Bool} (h : its[t]? = some i) (hl : lvf i = false) : (its.take (t + 1)).filter lvf = (its.take t).filter lvf := by
  obtain ⟨hlt, he⟩ := List.getElem?_eq_some_iff.1 h
  rw [List.take_succ_eq_append_getElem hlt, List.filter_append, he]
  simp [hl]

set_option maxHeartbeats 1600000 in
theorem rebuild_any (A g head cap e n : Nat) (its : List Nat) (sb : Nat → Nat) (lvf : Nat → Bool) (w : World) (hO : Ord w A g head cap its sb e) (hS : Sts w g A sb lvf n) (hits : ∀ i, i ∈ its → i < n) :
    Calls Yba.prog 10 #[.pointer (some ⟨A, 0, none⟩)] w fun r w' => r = .returned (.tuple #[]) ∧ (Ord w' A g 0 cap (its.filter lvf) sb 0 ∧ Fr [A, g] w w') := by
  have HO := (show Hid (Ord w A g head cap its sb e) from hO)
  have HS := (show Hid (Sts w g A sb lvf n) from hS)
  have HT := (show Hid (∀ i, i ∈ its → i < n) from hits)
  have g0 := hO.r0
  have g1 := hO.r1
  have hcap := hO.le
  have hcm := hO.capm
  have hgA := hO.gA
  obtain ⟨m, hm⟩ : ∃ m, m = its.length := ⟨_, rfl⟩
  have HM := (show Hid (m = its.length) from hm)
  obtain ⟨L, hL⟩ : ∃ L, L = head + its.length := ⟨_, rfl⟩
  rw [← hL] at g0 hcap
  have hhL : head ≤ L := by omega
  have hhL' : (head : Int) ≤ (L : Int) := by omega
  have e1 : L - head = m := by omega
  have hLm : L = head + m := by omega
  have HL := (show Hid (L = head + m) from hLm)
  clear hO hS hits hm hL hLm
  go_enter Yba.func10, Yba.ntmps10
  go_upto_region 1 with fail
  go_cut [21, 22, 23] from 13 to 23 (fun s l z wx => (∃ a sc, s = .slice (some a) m sc ∧ (m = 0 ∨ a = ⟨g, head * 5, none⟩)) ∧ l = .int .i64 m ∧ z = .int .i64 0 ∧ ∃ nq, wx = w.drewN nq)
  case first =>
    by_cases hcp : cap = head
    · have hm0 : m = 0 := by have := HL.out; omega
      have hLc : L = cap := by omega
      clear HL HM HO HS HT
      subst hm0 hLc hcp
      go_quiet (fail)
      go_wp2
      go_meet
      exact ⟨⟨_, _, rfl, by simp⟩, rfl, rfl, _, rfl⟩
    · go_quiet (fail)
      go_wp2
      go_meet
      exact ⟨⟨_, _, rfl, Or.inr rfl⟩, rfl, rfl, _, rfl⟩
  case rest =>
  obtain ⟨⟨a, sc, rfl, ha⟩, rfl, rfl, nq, rfl⟩ := hcut
  obtain ⟨w1, hw1⟩ : ∃ w1, w1 = w.drewN nq := ⟨_, rfl⟩
  rw [← hw1]
  have f1 : Fr [] w w1 := by rw [hw1]; exact Fr.drewN _ _
  have hO1 := HO.out.keep f1 (by simp) (by simp)
  have hS1 := HS.out.keep f1 (by simp)
  have HO1 := (show Hid (Ord w1 A g head cap its sb e) from hO1)
  have HS1 := (show Hid (Sts w1 g A sb lvf n) from hS1)
  have HF1 := (show Hid (Fr [] w w1) from f1)
  have HAD := (show Hid (m = 0 ∨ a = ⟨g, head * 5, none⟩) from ha)
  clear hw1 f1 hO1 hS1 ha HO HS
  go_upto_block 0 with fail
  go_cut [2, 4, 23] from 24 to 32 (fun v p c wx => ∃ r, v = .slice (some ⟨g, 0, none⟩) r cap ∧ r = (its.filter lvf).length ∧ RI w1 g head cap its sb m (its.filter lvf) wx)
  case first =>
    go_wp2_with fail
    go_loopg [2, 4, 23] m (fun k v p c wr => ∃ (t r : Nat) (fl : List Nat), c = .int .i64 t ∧ k + t = m ∧ v = .slice (some ⟨g, 0, none⟩) r cap ∧ r = fl.length ∧ fl = (its.take t).filter lvf ∧ RI w1 g head cap its sb t fl wr)
    case atStart =>
      exact ⟨0, 0, [], rfl, rfl, rfl, rfl, by simp, ⟨fun s i hs => by simp at hs, fun u i _ hi q hq => HO1.out.it u i hi q hq, HO1.out.sp, HO1.out.lg, Fr.refl _ _⟩⟩
    case round =>
      obtain ⟨t, r, fl, rfl, hk, rfl, hr, hfl, hI⟩ := hrel
      have HI := (show Hid (RI w1 g head cap its sb t fl wr) from hI)
      have HR := (show Hid (r = fl.length ∧ fl = (its.take t).filter lvf) from ⟨hr, hfl⟩)
      clear hI hr hfl
      by_cases ht : t < m
      · have ht' : (t : Int) < (m : Int) := by omega
        obtain ⟨i, hi⟩ : ∃ i, its[t]? = some i := ⟨_, List.getElem?_eq_getElem (by have := HM.out; omega)⟩
        have hin : i ∈ its := List.mem_of_getElem? hi
        obtain rfl : a = ⟨g, head * 5, none⟩ := by
          rcases HAD.out with h | h
          · omega
          · exact h
        have hc : ∀ q, q < 5 → wr.cell? ⟨g, head * 5 + t * 5 + q, none⟩ = some (elem sb i q) := by
          intro q hq
          rw [show head * 5 + t * 5 + q = (head + t) * 5 + q by omega]
          exact HI.out.todo t i (Nat.le_refl _) hi q hq
        have c0 : wr.cell? ⟨g, head * 5 + t * 5, none⟩ = some (.int .u64 0) := hc 0 (by omega)
        have c1 : wr.cell? ⟨g, head * 5 + t * 5 + 1, none⟩ = some (.int .i64 0) := hc 1 (by omega)
        have c2 : wr.cell? ⟨g, head * 5 + t * 5 + 2, none⟩ = some (.pointer none) := hc 2 (by omega)
        have c3 : wr.cell? ⟨g, head * 5 + t * 5 + 3, none⟩ = some (.int .u64 ((i + 1 : Nat) : Int)) := hc 3 (by omega)
        have c4 : wr.cell? ⟨g, head * 5 + t * 5 + 4, none⟩ = some (.pointer (some ⟨sb i, 0, none⟩)) := hc 4 (by omega)
        have HIT := (show Hid (its[t]? = some i) from hi)
        clear hc hi
        go_upto_region 4 with fail
        obtain ⟨N, hN⟩ : ∃ N, N = wr.heap.size := ⟨_, rfl⟩
        obtain ⟨w2, hw2⟩ : ∃ w2, w2 = wr.alloc (.cells #[.int .u64 0, .int .i64 0, .pointer none, .int .u64 ((i : Int) + 1), .pointer (some ⟨sb i, 0, none⟩)] 40) := ⟨_, rfl⟩
        rw [← hN, ← hw2]
        have f2 : Fr [] wr w2 := by rw [hw2]; exact Fr.alloc _ _
        have n0 : w2.cell? ⟨N, 0, none⟩ = some (.int .u64 0) := by rw [hw2, hN]; simp
        have n1 : w2.cell? ⟨N, 1, none⟩ = some (.int .i64 0) := by rw [hw2, hN]; simp
        have n2 : w2.cell? ⟨N, 2, none⟩ = some (.pointer none) := by rw [hw2, hN]; simp
        have n3 : w2.cell? ⟨N, 3, none⟩ = some (.int .u64 ((i : Int) + 1)) := by rw [hw2, hN]; simp
        have n4 : w2.cell? ⟨N, 4, none⟩ = some (.pointer (some ⟨sb i, 0, none⟩)) := by rw [hw2, hN]; simp
        have hI2 := HI.out.keep f2
        have hst : Sts w2 g A sb lvf n := HS1.out.keep hI2.fr (by intro b hb; simp only [List.mem_cons, List.not_mem_nil, or_false] at hb; omega)
        have hsta := hst.sta (HT.out i hin)
        rw [show ((i + 1 : Nat) : Int) = (i : Int) + 1 by omega] at hsta
        have HI2 := (show Hid (RI w1 g head cap its sb t fl w2) from hI2)
        have hlv := live_any N 0 (sb i) ((i : Int) + 1) (lvf i) w2 n3 n4 hsta
        have HHN := (show Hid (N = wr.heap.size) from hN)
        clear hw2 hN f2 hI2 hst hsta c0 c1 c2 c3 c4
        by_cases hl : lvf i = true
        · rw [hl] at hlv
          go_wp2_with fail
          refine hlv.mono ?_
          rintro e w3 ⟨rfl, nq2, hw3⟩
          have f3 : Fr [] w2 w3 := by rw [hw3]; exact Fr.drewN _ _
          have m0 := f3.cell (by simp) n0
          have m1 := f3.cell (by simp) n1
          have m2 := f3.cell (by simp) n2
          have m3 := f3.cell (by simp) n3
          have m4 := f3.cell (by simp) n4
          have hI3 := HI2.out.keep f3
          have hI4 := hI3.keep (Fr.alloc w3 (.cells #[.int .u64 0, .int .i64 0, .pointer none, .int .u64 ((i : Int) + 1), .pointer (some ⟨sb i, 0, none⟩)] 40))
          have hroom : r + 1 ≤ cap := by
            have h1 := filter_take_le lvf its t
            have h2 := HR.out.1
            have h3 := HR.out.2
            rw [← h3] at h1
            have h4 := HL.out
            omega
          have HI4 := (show Hid _ from hI4)
          clear hlv hw3 f3 n0 n1 n2 n3 n4 hI3 hI4
          go_wp2_with (at_builtin; refine wpList_app5 rfl (.tmp 28) (.tmp 30) rfl g r cap rfl ⟨w3.heap.size, 0, none⟩ 1 [elem sb i 0, elem sb i 1, elem sb i 2, elem sb i 3, elem sb i 4] rfl rfl (elems_at sb i _ _ (new_cells sb i w3)) (five_one sb i) hroom HI4.out.sp ?_)
          go_roundg (gk - 1)
          case measure => omega
          case rel =>
            have h1 := filter_take_le lvf its t
            obtain ⟨h2, h3⟩ := HR.out
            rw [← h3] at h1
            have h4 := HL.out
            refine ⟨t + 1, r + 1, fl ++ [i], by simp, by omega, rfl, by simp [h2], ?_, ?_⟩
            · rw [take_filter_yes HIT.out hl, ← h3]
            · rw [h2]
              exact HI4.out.take h1 (by omega)
        · have hlf : lvf i = false := by simpa using hl
          rw [hlf] at hlv
          go_wp2_with fail
          refine hlv.mono ?_
          rintro e w3 ⟨rfl, nq2, hw3⟩
          have f3 : Fr [] w2 w3 := by rw [hw3]; exact Fr.drewN _ _
          have hI3 := HI2.out.keep f3
          have HI3 := (show Hid (RI w1 g head cap its sb t fl w3) from hI3)
          clear hlv hw3 f3 n0 n1 n2 n3 n4 hI3
          go_wp2
          go_roundg (gk - 1)
          case measure => omega
          case rel =>
            obtain ⟨h2, h3⟩ := HR.out
            refine ⟨t + 1, r, fl, by simp, by omega, rfl, h2, ?_, HI3.out.skip⟩
            rw [take_filter_no HIT.out hlf, ← h3]
      · have ht' : ¬ (t : Int) < (m : Int) := by omega
        have hte : t = m := by omega
        have HTE := (show Hid (t = m) from hte)
        clear hte hk
        go_wp2
        go_meet
        obtain ⟨h2, h3⟩ := HR.out
        have hM := HM.out
        have hfl : fl = its.filter lvf := by rw [h3, HTE.out, hM, List.take_length]
        refine ⟨r, rfl, by rw [h2, hfl], ?_⟩
        have h := HI.out
        rw [HTE.out, hfl] at h
        exact h
  case rest =>
  obtain ⟨r, rfl, hr, hI⟩ := hcut
  obtain ⟨w2, hw2⟩ : ∃ w2, w2 = wc := ⟨_, rfl⟩
  rw [← hw2] at hI ⊢
  clear hw2
  have hrL : r ≤ L := by
    have h1 := List.length_filter_le lvf its
    have h2 := HM.out
    have h3 := HL.out
    omega
  have hrL' : (r : Int) ≤ (L : Int) := by omega
  have hrc : r ≤ cap := by omega
  have hrc' : (r : Int) ≤ (cap : Int) := by omega
  have f2 := hI.fr
  have k0 := f2.cell (b := A) (by simp; omega) HO1.out.r0
  rw [show head + its.length = L by have h1 := HM.out; have h2 := HL.out; omega] at k0
  have k1 := f2.cell (b := A) (by simp; omega) HO1.out.r1
  have k2 := f2.cell (b := A) (by simp; omega) HO1.out.r2
  have k3 := f2.cell (b := A) (by simp; omega) HO1.out.r3
  have lA := block_lt_of_cell HO1.out.r0
  have z0 := (f2.frozen (b := A) (o := 0) (by simp; omega) lA).trans HO1.out.f0
  have z1 := (f2.frozen (b := A) (o := 1) (by simp; omega) lA).trans HO1.out.f1
  have z2 := (f2.frozen (b := A) (o := 2) (by simp; omega) lA).trans HO1.out.f2
  have z3 := (f2.frozen (b := A) (o := 3) (by simp; omega) lA).trans HO1.out.f3
  have HI := (show Hid (RI w1 g head cap its sb m (its.filter lvf) w2) from hI)
  have HR := (show Hid (r = (its.filter lvf).length) from hr)
  have HF2 := (show Hid (Fr [g] w1 w2) from f2)
  clear hI hr f2
  go_upto_region 7 with fail
  go_cut [] from 33 to 39 (fun wx => ∃ zs, wx = w2.setCells g (r * 5) zs)
  case first =>
    by_cases hc : cap = r
    · have hLr : L = cap := by omega
      have hclr : (Builtin.clear_ #[27] 0 #[.slice (some ⟨g, 0, none⟩) 0 0]).run Yba.prog w2 = .ok (.tuple #[]) w2 := by simp [Builtin.clear_, run_underlying Yba.underlying27]
      clear HI HR HM HL HO1 HS1 HT HAD
      subst hLr hc
      go_wp2
      go_meet
      exact ⟨[], rfl⟩
    · have hsp := HI.out.sp
      obtain ⟨zs, hzl, hclr⟩ := run_clear5 w2 0 g (r * 5) (L - r) (cap - r) (fun j hj => (hsp (r * 5 + j) (by omega)).1) (fun j hj => (hsp (r * 5 + j) (by omega)).2)
      have hclr0 := hclr 0
      clear hsp hclr hzl
      go_wp2
      go_meet
      exact ⟨zs, rfl⟩
  case rest =>
  obtain ⟨zs, rfl⟩ := hcut
  obtain ⟨w3, hw3⟩ : ∃ w3, w3 = w2.setCells g (r * 5) zs := ⟨_, rfl⟩
  rw [← hw3]
  have f3 : Fr [g] w2 w3 := by rw [hw3]; exact Fr.grown (grown_setCells g _ _ _) (by simp)
  have lA2 := block_lt_of_cell k0
  have z0 := (f3.frozen (b := A) (o := 0) (by simp; omega) lA2).trans z0
  have z1 := (f3.frozen (b := A) (o := 1) (by simp; omega) lA2).trans z1
  have z2 := (f3.frozen (b := A) (o := 2) (by simp; omega) lA2).trans z2
  have z3 := (f3.frozen (b := A) (o := 3) (by simp; omega) lA2).trans z3
  have k0 := f3.cell (b := A) (by simp; omega) k0
  have k1 := f3.cell (b := A) (by simp; omega) k1
  have k2 := f3.cell (b := A) (by simp; omega) k2
  have k3 := f3.cell (b := A) (by simp; omega) k3
  have hsp3 := sp_setCells HI.out.sp (r * 5) zs
  rw [← hw3] at hsp3
  have hdone : ∀ s i, (its.filter lvf)[s]? = some i → ∀ q, q < 5 → w3.cell? ⟨g, (0 + s) * 5 + q, none⟩ = some (elem sb i q) := by
    intro s i hs q hq
    have hsl := (List.getElem?_eq_some_iff.1 hs).1
    have hrr := HR.out
    rw [hw3, World.cell?_setCells_out g _ _ _ _ (by intro _ _; left; simp; omega), Nat.zero_add]
    exact HI.out.done s i hs q hq
  have HDN := (show Hid (∀ s i, (its.filter lvf)[s]? = some i → ∀ q, q < 5 → w3.cell? ⟨g, (0 + s) * 5 + q, none⟩ = some (elem sb i q)) from hdone)
  have HSP := (show Hid (∀ j, j < cap * 5 → (w3.cell? ⟨g, j, none⟩).isSome = true ∧ w3.frozen? ⟨g, j, none⟩ = false) from hsp3)
  have HF3 := (show Hid (Fr [g] w1 w3) from HF2.out.trans f3)
  have hce : ∀ w, (Builtin.clear_ #[28] 0 #[.slice none 0 0]).run Yba.prog w = .ok (.tuple #[]) w := fun w => by simp [Builtin.clear_, run_underlying Yba.underlying28]
  clear hw3 f3 hdone hsp3 g0 g1
  go_upto_block 2 with fail
  go_cut [5, 7, 50] from 51 to 59 (fun e p c wx => e = .slice none 0 0 ∧ w3 = wx)
  case first =>
    go_wp2_with fail
    refine wp_loop_rounds 1 ?_
    rw [rounds_succ]
    go_wp2
    go_meet
    exact ⟨rfl, rfl⟩
  case rest =>
  obtain ⟨rfl, rfl⟩ := hcut
  obtain ⟨w4, hw4⟩ : ∃ w4, w4 = (((w3.setCell ⟨A, 0, none⟩ (.slice (some ⟨g, 0, none⟩) r cap)).setCell ⟨A, 1, none⟩ (.int .i64 0)).setCell ⟨A, 2, none⟩ (.slice none 0 0)).setCell ⟨A, 3, none⟩ (.int .i64 0) := ⟨_, rfl⟩
  go_upto_region 17 with fail
  rw [← hw4]
  have f4 : Fr [A] w3 w4 := by rw [hw4]; exact (((Fr.set _ (by simp) _).trans (Fr.set _ (by simp) _)).trans (Fr.set _ (by simp) _)).trans (Fr.set _ (by simp) _)
  have c0 : w4.cell? ⟨A, 0, none⟩ = some (.slice (some ⟨g, 0, none⟩) r cap) := by
    rw [hw4, cset_ne _ _ _ _ _ _ (by omega), cset_ne _ _ _ _ _ _ (by omega), cset_ne _ _ _ _ _ _ (by omega)]
    exact World.cell?_setCell_same _ _ _ k0
  have c1 : w4.cell? ⟨A, 1, none⟩ = some (.int .i64 0) := by
    rw [hw4, cset_ne _ _ _ _ _ _ (by omega), cset_ne _ _ _ _ _ _ (by omega)]
    exact World.cell?_setCell_same _ _ _ ((cset_ne _ _ _ _ _ _ (by omega)).trans k1)
  have c2 : w4.cell? ⟨A, 2, none⟩ = some (.slice none 0 0) := by
    rw [hw4, cset_ne _ _ _ _ _ _ (by omega)]
    exact World.cell?_setCell_same _ _ _ ((cset_ne _ _ _ _ _ _ (by omega)).trans ((cset_ne _ _ _ _ _ _ (by omega)).trans k2))
  have c3 : w4.cell? ⟨A, 3, none⟩ = some (.int .i64 0) := by
    rw [hw4]
    exact World.cell?_setCell_same _ _ _ ((cset_ne _ _ _ _ _ _ (by omega)).trans ((cset_ne _ _ _ _ _ _ (by omega)).trans ((cset_ne _ _ _ _ _ _ (by omega)).trans k3)))
  have hO4 : Ord w4 A g 0 cap (its.filter lvf) sb 0 := by
    have hrr := HR.out
    exact HO1.out.writes HF3.out HSP.out 0 0 (its.filter lvf) (by omega) HDN.out f4 (by rw [Nat.zero_add, ← hrr]; exact c0) c1 c2 c3 (fun o => by rw [hw4]; simp)
  have f14 : Fr [A, g] w w4 := (HF1.out.wide (by simp)).trans ((HF3.out.wide (by simp)).trans (f4.wide (by simp)))
  have HO4 := (show Hid (Ord w4 A g 0 cap (its.filter lvf) sb 0) from hO4)
  have HF4 := (show Hid (Fr [A, g] w w4) from f14)
  have hini := init_nil A w4 c2
  clear hw4 f4 c0 c1 c2 c3 hO4 f14 k0 k1 k2 k3 z0 z1 z2 z3 hce
  go_wp2_with fail
  refine hini.mono ?_
  rintro e w5 ⟨rfl, hw5⟩
  obtain rfl := hw5
  go_wp2
  go_end0
  exact ⟨rfl, HO4.out, HF4.out⟩

end Go.Proofs.Ybulkaixu.Cnt
