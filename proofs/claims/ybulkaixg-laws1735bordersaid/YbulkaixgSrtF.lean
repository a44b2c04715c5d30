/-
  order2 (86), median (85), medianAdjacent (84), choosePivot (76): which of the places is handed back, not how often the counter ran.
-/
import Derived.Test.YbulkaixgSrtB
import Derived.Deep.DeepCutAuto
import Derived.Deep.CutBlock
namespace Go.Proofs.Ybulkaixg.Srt
open Go.RowKit Go.Sort
set_option linter.unusedVariables false
set_option linter.unusedSimpArgs false
set_option maxRecDepth 100000
variable {α : Type} [Inhabited α]
variable {N base : Nat} {rv : Value} {lt : α → α → Bool} {S : Array α → World → Prop}

/-- The counter at block c. -/
structure Ctr (base c : Nat) (w : World) : Prop where
  lo : base ≤ c
  hi : c < w.heap.size
  cell : ∃ s : Int, w.cell? ⟨c, 0, none⟩ = some (.int .i64 s)
  free : w.frozen? ⟨c, 0, none⟩ = false

theorem Ctr.up {c : Nat} {w w' : World} (h : Ctr base c w) (u : Up base w w') : Ctr base c w' := by
  obtain ⟨s, hs⟩ := h.cell
  have hb := u.block c h.lo h.hi
  exact ⟨h.lo, Nat.lt_of_lt_of_le h.hi u.size, ⟨s, (World.cell?_of_block hb).trans hs⟩, (World.frozen?_of_block hb).trans h.free⟩
theorem Ctr.set {c : Nat} {w : World} (h : Ctr base c w) (s : Int) : Ctr base c (w.setCell ⟨c, 0, none⟩ (.int .i64 s)) := by
  obtain ⟨s0, hs⟩ := h.cell
  exact ⟨h.lo, by simpa using h.hi, ⟨s, World.cell?_setCell_same w _ _ hs⟩, by simpa using h.free⟩
theorem Env.setAt (E : Env N base rv lt S) {d : Array α} {w : World} (h : S d w) {a : Addr} (hc : base ≤ a.block) (v : Value) : S d (w.setCell a v) :=
  E.keep d w _ h rfl rfl rfl (by simp) (fun b hb => Go.RowKit.Below.heap_setCell w a v b (fun e => by omega))

set_option maxHeartbeats 2000000 in
theorem ord_walk (E : Env N base rv lt S) (a b c : Nat) (d : Array α) (w : World) (hS : S d w) (hC : Ctr base c w) (ha : a < N) (hb : b < N) :
    Calls Yba.prog 86 #[.iface 204 rv, .int .i64 a, .int .i64 b, .pointer (some ⟨c, 0, none⟩)] w fun e w' => ∃ x y : Nat, e = .returned (.tuple #[.int .i64 x, .int .i64 y]) ∧ x < N ∧ y < N ∧ Hid ((x = a ∧ y = b) ∨ (x = b ∧ y = a)) ∧ Hid (S d w') ∧ Hid (Ctr base c w') := by
  have mL := E.mL; have hN := E.small
  have hl := E.less d w hS b a hb ha
  go_enter Yba.func86, Yba.ntmps86
  cases hv : lt d[b]! d[a]! with
  | true =>
    rw [hv] at hl
    go_upto_region 2 with (go_at_call 130; refine hl.mono ?_; rintro e w1 ⟨rfl, hS1, hU⟩)
    have hC1 := hC.up hU
    obtain ⟨s, hs⟩ := hC1.cell
    have hf := hC1.free
    have HC1 : Hid (Ctr base c w1) := hC1
    have HS1 : Hid (S d w1) := hS1
    clear hS hC hS1 hU hC1 hl
    go_wp2
    go_ret2
    exact ⟨b, a, rfl, hb, ha, Or.inr ⟨rfl, rfl⟩, E.setAt HS1.out HC1.out.lo _, HC1.out.set _⟩
  | false =>
    rw [hv] at hl
    go_wp2_with (go_at_call 130; refine hl.mono ?_; rintro e w1 ⟨rfl, hS1, hU⟩)
    go_ret2
    exact ⟨a, b, rfl, ha, hb, Or.inl ⟨rfl, rfl⟩, hS1, hC.up hU⟩

set_option maxHeartbeats 2000000 in
theorem med_walk (E : Env N base rv lt S) (a b m c : Nat) (d : Array α) (w : World) (hS : S d w) (hC : Ctr base c w) (ha : a < N) (hb : b < N) (hm : m < N) :
    Calls Yba.prog 85 #[.iface 204 rv, .int .i64 a, .int .i64 b, .int .i64 m, .pointer (some ⟨c, 0, none⟩)] w fun e w' => ∃ x : Nat, e = .returned (.int .i64 x) ∧ Hid (x = a ∨ x = b ∨ x = m) ∧ Hid (S d w') ∧ Hid (Ctr base c w') := by
  have HS : Hid (S d w) := hS
  have HC : Hid (Ctr base c w) := hC
  clear hS hC
  go_enter Yba.func85, Yba.ntmps85
  go_upto_region 2 with (go_at_call 86; refine (ord_walk E a b c d w HS.out HC.out ha hb).mono ?_; rintro e w1 ⟨x1, y1, rfl, hx1, hy1, h1, HS1, HC1⟩)
  go_upto_region 3 with (go_at_call 86; refine (ord_walk E y1 m c d w1 HS1.out HC1.out hy1 hm).mono ?_; rintro e w2 ⟨x2, y2, rfl, hx2, hy2, h2, HS2, HC2⟩)
  go_wp2_with (go_at_call 86; refine (ord_walk E x1 x2 c d w2 HS2.out HC2.out hx1 hx2).mono ?_; rintro e w3 ⟨x3, y3, rfl, hx3, hy3, h3, HS3, HC3⟩)
  go_ret
  refine ⟨y3, rfl, ?_, HS3, HC3⟩
  have h1 := h1.out; have h2 := h2.out; have h3 := h3.out
  show y3 = a ∨ y3 = b ∨ y3 = m
  omega

set_option maxHeartbeats 2000000 in
theorem medA_walk (E : Env N base rv lt S) (a c : Nat) (d : Array α) (w : World) (hS : S d w) (hC : Ctr base c w) (ha : 1 ≤ a) (hb : a + 1 < N) :
    Calls Yba.prog 84 #[.iface 204 rv, .int .i64 a, .pointer (some ⟨c, 0, none⟩)] w fun e w' => ∃ x : Nat, e = .returned (.int .i64 x) ∧ a - 1 ≤ x ∧ x ≤ a + 1 ∧ Hid (S d w') ∧ Hid (Ctr base c w') := by
  have hN := E.small
  have hm := med_walk E (a - 1) a (a + 1) c d w hS hC (by omega) (by omega) hb
  rw [show ((a - 1 : Nat) : Int) = (a : Int) - 1 by omega, show ((a + 1 : Nat) : Int) = (a : Int) + 1 by omega] at hm
  go_enter Yba.func84, Yba.ntmps84
  go_wp2_with (go_at_call 85; refine hm.mono ?_; rintro e w1 ⟨x, rfl, hx, HS, HC⟩)
  go_ret
  have hx := hx.out
  exact ⟨x, rfl, by omega, by omega, HS, HC⟩

theorem Ctr.fresh (E : Env N base rv lt S) {d : Array α} {w : World} (h : S d w) (T : TypeId) : Ctr base w.heap.size (w.alloc (.cells #[.int .i64 0] T)) :=
  ⟨E.top d w h, by simp, ⟨0, by rw [World.cell?_alloc_at _ _ _ _ rfl]; rfl⟩, World.frozen?_alloc_at _ _ _ _ rfl⟩
theorem Env.alloc (E : Env N base rv lt S) {d : Array α} {w : World} (h : S d w) (o : Obj) : S d (w.alloc o) :=
  E.keep d w _ h rfl rfl rfl (by simp) (fun b hb => ((Go.RowKit.Below.refl w.heap.size w).alloc (Nat.le_refl _) o).block b (Nat.lt_of_lt_of_le hb (E.top d w h)))

set_option maxHeartbeats 4000000 in
theorem choose_walk (E : Env N base rv lt S) (a b : Nat) (d : Array α) (w : World) (hS : S d w) (hab : a < b) (hb : b ≤ N) :
    Calls Yba.prog 76 #[.iface 204 rv, .int .i64 a, .int .i64 b] w fun e w' => ∃ (p : Nat) (h : Int), e = .returned (.tuple #[.int .i64 p, .int .i64 h]) ∧ a ≤ p ∧ p < b ∧ Hid (h = 0 ∨ h = 1 ∨ h = 2) ∧ Hid (S d w') := by
  have hN := E.small
  have hC0 := Ctr.fresh E hS 3
  have hS0 := E.alloc hS (.cells #[.int .i64 0] 3)
  obtain ⟨c, hc⟩ : ∃ c, c = w.heap.size := ⟨_, rfl⟩
  rw [← hc] at hC0
  obtain ⟨w0, hw0⟩ : ∃ w0, w0 = w.alloc (.cells #[.int .i64 0] 3) := ⟨_, rfl⟩
  rw [← hw0] at hC0 hS0
  have HC0 : Hid (Ctr base c w0) := hC0
  have HS0 : Hid (S d w0) := hS0
  have hc' := hc.symm
  have hw0' := hw0.symm
  have hl : ((b - a : Nat) : Int) = (b : Int) - a := by omega
  obtain ⟨I, hI⟩ : ∃ I : Nat, I = a + (b - a) / 4 := ⟨_, rfl⟩
  obtain ⟨J, hJ⟩ : ∃ J : Nat, J = a + (b - a) / 4 * 2 := ⟨_, rfl⟩
  obtain ⟨K, hK⟩ : ∃ K : Nat, K = a + (b - a) / 4 * 3 := ⟨_, rfl⟩
  have eI : ((a : Int) + ((b : Int) - (a : Int)) / 4) = (I : Int) := by omega
  have eJ : ((a : Int) + ((b : Int) - (a : Int)) / 4 * 2) = (J : Int) := by omega
  have eK : ((a : Int) + ((b : Int) - (a : Int)) / 4 * 3) = (K : Int) := by omega
  have bI : a ≤ I ∧ I < b := by omega
  have bJ : a ≤ J ∧ J < b := by omega
  have bK : a ≤ K ∧ K < b := by omega
  have n50 : 50 ≤ b - a → a + 1 ≤ I ∧ I + 1 < b ∧ a + 1 ≤ J ∧ J + 1 < b ∧ a + 1 ≤ K ∧ K + 1 < b := by omega
  have HX : Hid (J = a + (b - a) / 4 * 2) := hJ
  clear hI hJ hK hC0 hS0 hS hc hw0
  go_enter Yba.func76, Yba.ntmps76
  by_cases h8 : 8 ≤ b - a
  · have h8z : (8 : Int) ≤ (b : Int) - a := by omega
    by_cases h50 : 50 ≤ b - a
    · have h50z : (50 : Int) ≤ (b : Int) - a := by omega
      obtain ⟨n1, n2, n3, n4, n5, n6⟩ := n50 h50
      go_upto_region 9 with (go_at_call 84; refine (medA_walk E I c d w0 HS0.out HC0.out (by omega) (by omega)).mono ?_; rintro e w1 ⟨x1, rfl, hx1, hy1, HS1, HC1⟩)
      go_upto_region 10 with (go_at_call 84; refine (medA_walk E J c d w1 HS1.out HC1.out (by omega) (by omega)).mono ?_; rintro e w2 ⟨x2, rfl, hx2, hy2, HS2, HC2⟩)
      go_upto_region 11 with (go_at_call 84; refine (medA_walk E K c d w2 HS2.out HC2.out (by omega) (by omega)).mono ?_; rintro e w3 ⟨x3, rfl, hx3, hy3, HS3, HC3⟩)
      go_upto_region 12 with (go_at_call 85; refine (med_walk E x1 x2 x3 c d w3 HS3.out HC3.out (by omega) (by omega) (by omega)).mono ?_; rintro e w4 ⟨p, rfl, hp, HS4, HC4⟩)
      have hp1 : a ≤ p ∧ p < b := by have := hp.out; omega
      obtain ⟨s, hs⟩ := HC4.out.cell
      go_wp2
      all_goals (go_ret2; exact ⟨p, _, rfl, hp1.1, hp1.2, by simp [Hid], HS4⟩)
    · have h50z : ¬ ((50 : Int) ≤ (b : Int) - a) := by omega
      go_upto_region 12 with (go_at_call 85; refine (med_walk E I J K c d w0 HS0.out HC0.out (by omega) (by omega) (by omega)).mono ?_; rintro e w4 ⟨p, rfl, hp, HS4, HC4⟩)
      have hp1 : a ≤ p ∧ p < b := by have := hp.out; omega
      obtain ⟨s, hs⟩ := HC4.out.cell
      go_wp2
      all_goals (go_ret2; exact ⟨p, _, rfl, hp1.1, hp1.2, by simp [Hid], HS4⟩)
  · have h8z : ¬ ((8 : Int) ≤ (b : Int) - a) := by omega
    obtain ⟨s, hs⟩ := HC0.out.cell
    go_wp2
    all_goals (go_ret2; exact ⟨J, _, rfl, bJ.1, bJ.2, by simp [Hid], HS0⟩)

end Go.Proofs.Ybulkaixg.Srt
