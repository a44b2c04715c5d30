/-
  pageQueue.crowded (8), pageQueue.holdersOf (6).
-/
import Derived.Test.YbulkaixuDoorLocks
import Derived.Test.YbulkaixuDoorPtrs
import Derived.Test.YbulkaixuDoorChain
namespace Go.Proofs.YbulkaixuDoor.Walk
open Go.RowKit
set_option linter.unusedVariables false
set_option linter.unusedSimpArgs false
set_option maxRecDepth 100000

/-- The page is not crowded. -/
def Thin (w : World) (Q : Nat) : Prop := w.cell? ⟨Q, 1, none⟩ = some (.pointer none) ∨ ∃ I, w.cell? ⟨Q, 1, none⟩ = some (.pointer (some ⟨I, 0, none⟩)) ∧ w.cell? ⟨I, 1, none⟩ = some (.pointer none)
/-- The page is crowded, its lock index at X empty. -/
def Thick (w : World) (Q I X : Nat) : Prop := w.cell? ⟨Q, 1, none⟩ = some (.pointer (some ⟨I, 0, none⟩)) ∧ w.cell? ⟨I, 1, none⟩ = some (.pointer (some ⟨X, 0, none⟩)) ∧ Empty w X

theorem crowded_no (Q : Nat) (w : World) (h : Thin w Q) : Calls Ybad.prog 8 #[.pointer (some ⟨Q, 0, none⟩)] w fun e w' => e = .returned (.bool false) ∧ w' = w := by
  rcases h with h | ⟨I, h, h2⟩
  · go_enter Ybad.func8, Ybad.ntmps8
    go_wp2
    go_ret
    exact ⟨rfl, rfl⟩
  · go_enter Ybad.func8, Ybad.ntmps8
    go_wp2
    go_ret
    exact ⟨rfl, rfl⟩

theorem crowded_yes (Q I X : Nat) (w : World) (h : Thick w Q I X) : Calls Ybad.prog 8 #[.pointer (some ⟨Q, 0, none⟩)] w fun e w' => e = .returned (.bool true) ∧ w' = w := by
  obtain ⟨h, h2, _⟩ := h
  go_enter Ybad.func8, Ybad.ntmps8
  go_wp2
  go_ret
  exact ⟨rfl, rfl⟩

/-- 'wpAnyH_take', the operation's slot written out. -/
theorem takeH {P : Program} {md : Region.Mode} {ops : Array Oper} {Q : Exit → Act → World → Prop} {S : World → Prop} {i d : Nat} {oi : Oper} {v : Value} {fuel : Nat} {listed : Array Bool} {a : Act} {w : World} (hi : ops[i]? = some oi) (hd : oi.dst = some d)
    (hs : Region.noSelect ops = true) (hf : Region.free md ops listed i = true) (hr : (Region.ready md ops listed).contains i = true)
    (hQ : ∀ c a w, Q (.panic c) (a.put (some d) v) w → Q (.panic c) a w) (hy : YieldsIf P ops S oi v a) (hS : S w)
    (h : wpAnyH P md ops Q S fuel (listed.setIfInBounds i true) (a.put (some d) v) w) : wpAnyH P md ops Q S (fuel + 1) listed a w :=
  wpAnyH_take hi hs hf hr (by rw [hd]; exact hQ) hy hS (by rw [hd]; exact h)

/-- The nodes before t whose sets meet the set. -/
def mtf (L : Nat → Nat) (m : Nat) (fw : Nat → Nat → Int) (g : Nat → Int) : Nat → Bool := fun i => meetU (fw i) g (Nat.min (L i) m)

/-- What holdersOf hands back. -/
def Held (Nb n : Nat) (mt : Nat → Bool) (w' : World) (v : Value) : Prop := PRow w' v (flv mt n).length (fun j => .pointer (some ⟨Nb, (flv mt n).getD j 0 * 19, none⟩))

set_option maxHeartbeats 1600000 in
theorem holders_any (Q Nb n : Nat) (A : Nat → Option Addr) (L C : Nat → Nat) (fw : Nat → Nat → Int) (b0 : Option Addr) (m cb : Nat) (g : Nat → Nat) (w : World) (hC : Chain w Nb n n A L C)
    (hQ0 : w.cell? ⟨Q, 0, none⟩ = some (if 0 < n then .pointer (some ⟨Nb, 0, none⟩) else .pointer none)) (hM : Thin w Q ∨ ∃ I X, Thick w Q I X) (hn : n ≤ 1024) (hm : m ≤ 1024)
    (hsets : ∀ i, i < n → WordS w (A i) (L i) (fw i) ∧ L i ≤ maxLen) (hset : WordB w w.heap.size b0 m g) (hT : Tab w) :
    Calls Ybad.prog 6 #[.pointer (some ⟨Q, 0, none⟩), .slice b0 m cb] w fun r w' => ∃ v, r = .returned v ∧ Held Nb n (mtf L m fw (fun i => (g i : Int))) w' v ∧ Below w.heap.size w w' := by
  have HC := (show Hid (Chain w Nb n n A L C) from hC)
  have HQ := (show Hid (w.cell? ⟨Q, 0, none⟩ = some (if 0 < n then .pointer (some ⟨Nb, 0, none⟩) else .pointer none)) from hQ0)
  have HM := (show Hid (Thin w Q ∨ ∃ I X, Thick w Q I X) from hM)
  have HSS := (show Hid (∀ i, i < n → WordS w (A i) (L i) (fw i) ∧ L i ≤ maxLen) from hsets)
  have HS := (show Hid (WordB w w.heap.size b0 m g) from hset)
  have HT := (show Hid (Tab w) from hT)
  clear hC hQ0 hM hsets hset hT
  obtain ⟨mt, hmt⟩ : ∃ mt, mt = mtf L m fw (fun i => (g i : Int)) := ⟨_, rfl⟩
  rw [← hmt]
  have HMT := (show Hid (mt = mtf L m fw (fun i => (g i : Int))) from hmt)
  clear hmt
  go_enter Ybad.func6, Ybad.ntmps6
  go_upto_region 2 with fail
  obtain ⟨w2, hw2⟩ : ∃ w2, w2 = (w.alloc (.cells #[.pointer (some ⟨Q, 0, none⟩)] 24)).alloc (.cells #[.slice none 0 0] 41) := ⟨_, rfl⟩
  rw [← hw2]
  have f2 : Fr [] w w2 := by rw [hw2]; exact (Fr.alloc _ _).trans (Fr.alloc _ _)
  have bel2 : Below w.heap.size w w2 := f2.under (by simp) (Nat.le_refl _)
  have p0 : w2.cell? ⟨w.heap.size, 0, none⟩ = some (.pointer (some ⟨Q, 0, none⟩)) := by rw [hw2]; simp
  have p1 : w2.cell? ⟨w.heap.size + 1, 0, none⟩ = some (.slice none 0 0) := by rw [hw2, World.cell?_alloc_at _ _ _ _ (by simp)]; rfl
  have y1 : w2.frozen? ⟨w.heap.size + 1, 0, none⟩ = false := by rw [hw2]; exact World.frozen?_alloc_at _ _ _ _ (by simp)
  have s2 : w2.heap.size = w.heap.size + 2 := by rw [hw2]; simp
  have HB2 := (show Hid (Below w.heap.size w w2) from bel2)
  have HF2 := (show Hid (Fr [] w w2) from f2)
  clear hw2 f2 bel2
  go_cut [37] from 13 to 37 (fun t wx => t = .bool true ∧ Below w2.heap.size w2 wx)
  case first =>
    rcases HM.out with hTh0 | ⟨I, X, hTk0⟩
    · have hTh : Thin w2.drew Q := by
        rcases hTh0 with h | ⟨I, h, h2⟩
        · exact Or.inl (HF2.out.cell (by simp) h)
        · exact Or.inr ⟨I, HF2.out.cell (by simp) h, HF2.out.cell (by simp) h2⟩
      clear hTh0
      refine wp_region_held_drew (S := fun w' => w'.cell? ⟨w.heap.size, 0, none⟩ = some (.pointer (some ⟨Q, 0, none⟩))) (by kernel_rfl) p0 (fun hH => ?_)
      refine takeH (i := 0) (d := 13) (v := .pointer (some ⟨Q, 0, none⟩)) rfl rfl (by kernel_rfl) (by kernel_rfl) (by kernel_rfl) (fun _ _ _ h => h) (Or.inl ⟨by rfl, fun w hSw => by (try dsimp only at hSw); go_simp⟩) hH ?_
      simp only [Act.put, List.setIfInBounds_toArray, List.set_cons_zero, List.set_cons_succ]
      refine wpAnyH_ready (rs := [1]) (by kernel_rfl) (by simp) ?_
      refine AllReadyH.cons rfl (fun K hK => ?_) AllReadyH.nil
      go_simp
      refine (crowded_no Q _ hTh).mono ?_
      rintro e w' ⟨rfl, hw'⟩
      subst hw'
      refine hK.out _ _ p0 (fun hH2 => ?_)
      clear hK K
      refine takeH (i := 2) (d := 15) (v := .bool true) rfl rfl (by kernel_rfl) (by kernel_rfl) (by kernel_rfl) (fun _ _ _ h => h) (Or.inl ⟨by rfl, fun w hSw => by (try dsimp only at hSw); go_simp⟩) hH2 ?_
      simp only [Act.put, List.setIfInBounds_toArray, List.set_cons_zero, List.set_cons_succ]
      refine takeH (i := 3) (d := 16) (v := .bool true) rfl rfl (by kernel_rfl) (by kernel_rfl) (by kernel_rfl) (fun _ _ _ h => h) (Or.inl ⟨by rfl, fun w hSw => by (try dsimp only at hSw); go_simp⟩) hH2 ?_
      simp only [Act.put, List.setIfInBounds_toArray, List.set_cons_zero, List.set_cons_succ]
      refine takeH (i := 4) (d := 17) (v := undef) rfl rfl (by kernel_rfl) (by kernel_rfl) (by kernel_rfl) (fun _ _ _ h => h) (Or.inr ⟨by kernel_rfl, rfl⟩) hH2 ?_
      simp only [Act.put, List.setIfInBounds_toArray, List.set_cons_zero, List.set_cons_succ]
      refine takeH (i := 5) (d := 18) (v := undef) rfl rfl (by kernel_rfl) (by kernel_rfl) (by kernel_rfl) (fun _ _ _ h => h) (Or.inr ⟨by kernel_rfl, rfl⟩) hH2 ?_
      simp only [Act.put, List.setIfInBounds_toArray, List.set_cons_zero, List.set_cons_succ]
      refine takeH (i := 6) (d := 19) (v := undef) rfl rfl (by kernel_rfl) (by kernel_rfl) (by kernel_rfl) (fun _ _ _ h => h) (Or.inr ⟨by kernel_rfl, rfl⟩) hH2 ?_
      simp only [Act.put, List.setIfInBounds_toArray, List.set_cons_zero, List.set_cons_succ]
      refine takeH (i := 7) (d := 20) (v := undef) rfl rfl (by kernel_rfl) (by kernel_rfl) (by kernel_rfl) (fun _ _ _ h => h) (Or.inr ⟨by kernel_rfl, rfl⟩) hH2 ?_
      simp only [Act.put, List.setIfInBounds_toArray, List.set_cons_zero, List.set_cons_succ]
      refine takeH (i := 8) (d := 21) (v := undef) rfl rfl (by kernel_rfl) (by kernel_rfl) (by kernel_rfl) (fun _ _ _ h => h) (Or.inr ⟨by kernel_rfl, rfl⟩) hH2 ?_
      simp only [Act.put, List.setIfInBounds_toArray, List.set_cons_zero, List.set_cons_succ]
      refine takeH (i := 9) (d := 22) (v := undef) rfl rfl (by kernel_rfl) (by kernel_rfl) (by kernel_rfl) (fun _ _ _ h => h) (Or.inr ⟨by kernel_rfl, rfl⟩) hH2 ?_
      simp only [Act.put, List.setIfInBounds_toArray, List.set_cons_zero, List.set_cons_succ]
      refine takeH (i := 10) (d := 23) (v := undef) rfl rfl (by kernel_rfl) (by kernel_rfl) (by kernel_rfl) (fun _ _ _ h => h) (Or.inr ⟨by kernel_rfl, rfl⟩) hH2 ?_
      simp only [Act.put, List.setIfInBounds_toArray, List.set_cons_zero, List.set_cons_succ]
      refine takeH (i := 11) (d := 24) (v := undef) rfl rfl (by kernel_rfl) (by kernel_rfl) (by kernel_rfl) (fun _ _ _ h => h) (Or.inr ⟨by kernel_rfl, rfl⟩) hH2 ?_
      simp only [Act.put, List.setIfInBounds_toArray, List.set_cons_zero, List.set_cons_succ]
      refine takeH (i := 12) (d := 25) (v := undef) rfl rfl (by kernel_rfl) (by kernel_rfl) (by kernel_rfl) (fun _ _ _ h => h) (Or.inr ⟨by kernel_rfl, rfl⟩) hH2 ?_
      simp only [Act.put, List.setIfInBounds_toArray, List.set_cons_zero, List.set_cons_succ]
      refine takeH (i := 13) (d := 26) (v := undef) rfl rfl (by kernel_rfl) (by kernel_rfl) (by kernel_rfl) (fun _ _ _ h => h) (Or.inr ⟨by kernel_rfl, rfl⟩) hH2 ?_
      simp only [Act.put, List.setIfInBounds_toArray, List.set_cons_zero, List.set_cons_succ]
      refine takeH (i := 14) (d := 27) (v := undef) rfl rfl (by kernel_rfl) (by kernel_rfl) (by kernel_rfl) (fun _ _ _ h => h) (Or.inr ⟨by kernel_rfl, rfl⟩) hH2 ?_
      simp only [Act.put, List.setIfInBounds_toArray, List.set_cons_zero, List.set_cons_succ]
      refine takeH (i := 15) (d := 28) (v := undef) rfl rfl (by kernel_rfl) (by kernel_rfl) (by kernel_rfl) (fun _ _ _ h => h) (Or.inr ⟨by kernel_rfl, rfl⟩) hH2 ?_
      simp only [Act.put, List.setIfInBounds_toArray, List.set_cons_zero, List.set_cons_succ]
      refine takeH (i := 16) (d := 29) (v := undef) rfl rfl (by kernel_rfl) (by kernel_rfl) (by kernel_rfl) (fun _ _ _ h => h) (Or.inr ⟨by kernel_rfl, rfl⟩) hH2 ?_
      simp only [Act.put, List.setIfInBounds_toArray, List.set_cons_zero, List.set_cons_succ]
      refine takeH (i := 17) (d := 30) (v := undef) rfl rfl (by kernel_rfl) (by kernel_rfl) (by kernel_rfl) (fun _ _ _ h => h) (Or.inr ⟨by kernel_rfl, rfl⟩) hH2 ?_
      simp only [Act.put, List.setIfInBounds_toArray, List.set_cons_zero, List.set_cons_succ]
      refine takeH (i := 18) (d := 31) (v := undef) rfl rfl (by kernel_rfl) (by kernel_rfl) (by kernel_rfl) (fun _ _ _ h => h) (Or.inr ⟨by kernel_rfl, rfl⟩) hH2 ?_
      simp only [Act.put, List.setIfInBounds_toArray, List.set_cons_zero, List.set_cons_succ]
      refine takeH (i := 19) (d := 32) (v := undef) rfl rfl (by kernel_rfl) (by kernel_rfl) (by kernel_rfl) (fun _ _ _ h => h) (Or.inr ⟨by kernel_rfl, rfl⟩) hH2 ?_
      simp only [Act.put, List.setIfInBounds_toArray, List.set_cons_zero, List.set_cons_succ]
      refine takeH (i := 20) (d := 33) (v := undef) rfl rfl (by kernel_rfl) (by kernel_rfl) (by kernel_rfl) (fun _ _ _ h => h) (Or.inr ⟨by kernel_rfl, rfl⟩) hH2 ?_
      simp only [Act.put, List.setIfInBounds_toArray, List.set_cons_zero, List.set_cons_succ]
      refine takeH (i := 21) (d := 34) (v := undef) rfl rfl (by kernel_rfl) (by kernel_rfl) (by kernel_rfl) (fun _ _ _ h => h) (Or.inr ⟨by kernel_rfl, rfl⟩) hH2 ?_
      simp only [Act.put, List.setIfInBounds_toArray, List.set_cons_zero, List.set_cons_succ]
      refine takeH (i := 22) (d := 35) (v := undef) rfl rfl (by kernel_rfl) (by kernel_rfl) (by kernel_rfl) (fun _ _ _ h => h) (Or.inr ⟨by kernel_rfl, rfl⟩) hH2 ?_
      simp only [Act.put, List.setIfInBounds_toArray, List.set_cons_zero, List.set_cons_succ]
      refine takeH (i := 23) (d := 36) (v := undef) rfl rfl (by kernel_rfl) (by kernel_rfl) (by kernel_rfl) (fun _ _ _ h => h) (Or.inr ⟨by kernel_rfl, rfl⟩) hH2 ?_
      simp only [Act.put, List.setIfInBounds_toArray, List.set_cons_zero, List.set_cons_succ]
      refine takeH (i := 24) (d := 37) (v := .bool true) rfl rfl (by kernel_rfl) (by kernel_rfl) (by kernel_rfl) (fun _ _ _ h => h) (Or.inl ⟨by rfl, fun w hSw => by (try dsimp only at hSw); go_simp⟩) hH2 ?_
      simp only [Act.put, List.setIfInBounds_toArray, List.set_cons_zero, List.set_cons_succ]
      refine wpAnyH_done (by kernel_rfl) ?_ _
      go_wp2
      go_meet
      exact ⟨rfl, (Below.refl _ _).drew⟩
    · obtain ⟨t1, t2, t3⟩ := hTk0
      have a1 := HF2.out.cell (by simp) t1
      have a2 := HF2.out.cell (by simp) t2
      have hE2 : Empty w2.drew X := t3.keep (bs := []) HF2.out.drew (by simp)
      have a3 : w2.cell? ⟨X, 1, none⟩ = some (.int .i64 0) := HF2.out.cell (by simp) t3.1
      have hTk : Thick w2.drew Q I X := ⟨a1, a2, hE2⟩
      have hXl : X < w2.drew.heap.size := block_lt_of_cell a3
      have hW2 : WordB w2.drew w2.drew.heap.size b0 m g := fun i hi => by
        obtain ⟨h1, x, e, hx, hc⟩ := HS.out i hi
        exact ⟨h1, x, e, Nat.lt_of_lt_of_le hx HF2.out.size, (HB2.out.cell (p := x.add i) (by rw [add_block]; exact hx)).trans hc⟩
      have hT2 : Tab w2.drew := HT.out.keep HB2.out.drew
      have hlk := locks_zero X b0 m cb g hm w2.drew hE2 hXl hW2 hT2
      have hcr := crowded_yes Q I X w2.drew hTk
      clear t1 t2 t3 hE2 hW2 hT2 hTk
      go_region_held3 (fun w' => w'.cell? ⟨w.heap.size, 0, none⟩ = some (.pointer (some ⟨Q, 0, none⟩)) ∧ w'.cell? ⟨Q, 1, none⟩ = some (.pointer (some ⟨I, 0, none⟩)) ∧ w'.cell? ⟨I, 1, none⟩ = some (.pointer (some ⟨X, 0, none⟩)) ∧ w'.cell? ⟨X, 1, none⟩ = some (.int .i64 0)) (refine ⟨?_, ?_, ?_, ?_⟩ <;> first | assumption | exact p0 | exact a1 | exact a2 | exact a3)
        (first
          | (go_at_call 8; refine hcr.mono ?_; rintro e w' ⟨rfl, hw'⟩; subst hw')
          | (go_at_call 9; refine hlk.mono ?_; rintro e w' ⟨rfl, hbl⟩; have b0' := (hbl.cell (p := ⟨w.heap.size, 0, none⟩) (block_lt_of_cell p0)).trans p0; have b1' := (hbl.cell (p := ⟨Q, 1, none⟩) (block_lt_of_cell a1)).trans a1; have b2' := (hbl.cell (p := ⟨I, 1, none⟩) (block_lt_of_cell a2)).trans a2; have b3' := (hbl.cell (p := ⟨X, 1, none⟩) (block_lt_of_cell a3)).trans a3))
      go_wp2
      go_meet
      exact ⟨rfl, ((Below.refl _ w2).drew).trans hbl⟩
  case rest =>
  obtain ⟨rfl, bel23⟩ := hcut
  obtain ⟨w3, hw3⟩ : ∃ w3, w3 = wc := ⟨_, rfl⟩
  rw [← hw3] at bel23 ⊢
  obtain ⟨F, hF⟩ : ∃ F, F = w.heap.size + 1 := ⟨_, rfl⟩
  have q0 := (bel23.cell (p := ⟨w.heap.size, 0, none⟩) (block_lt_of_cell p0)).trans p0
  have q1 := (bel23.cell (p := ⟨w.heap.size + 1, 0, none⟩) (block_lt_of_cell p1)).trans p1
  have z1 := (bel23.frozen (p := ⟨w.heap.size + 1, 0, none⟩) (block_lt_of_cell p1)).trans y1
  have bel3 : Below w.heap.size w w3 := HB2.out.trans (bel23.mono (by omega))
  have s3 : w.heap.size + 1 < w3.heap.size := by have := bel23.size; omega
  have kQ : w3.cell? ⟨Q, 0, none⟩ = some (if 0 < n then .pointer (some ⟨Nb, 0, none⟩) else .pointer none) := (bel3.cell (p := ⟨Q, 0, none⟩) (block_lt_of_cell HQ.out)).trans HQ.out
  have HNN := (show Hid (F = w.heap.size + 1) from hF)
  rw [← hF] at q1 z1 s3 ⊢
  have HB3 := (show Hid (Below w.heap.size w w3) from bel3)
  clear hw3 bel23 bel3 p0 p1 y1 s2 HB2 HF2 HM hF
  obtain ⟨pv, hpv⟩ : ∃ pv : Value, pv = (if 0 < n then .pointer (some ⟨Nb, 0, none⟩) else .pointer none) := ⟨_, rfl⟩
  rw [← hpv] at kQ
  have HPV := (show Hid (pv = (if 0 < n then .pointer (some ⟨Nb, 0, none⟩) else .pointer none)) from hpv)
  obtain ⟨pa, hpa⟩ : ∃ pa, pv = .pointer pa := by rw [hpv]; split <;> exact ⟨_, rfl⟩
  subst hpa
  clear hpv
  go_upto_block 0 with fail
  go_cut [6] from 42 to 57 (fun p wx => ∃ v, wx.cell? ⟨F, 0, none⟩ = some v ∧ Held Nb n mt wx v ∧ Below w.heap.size w wx)
  case first =>
    go_wp2_with fail
    go_loopg [6] n (fun k p wr => ∃ (t : Nat) (v : Value), k + t = n ∧ p = (if t < n then .pointer (some ⟨Nb, t * 19, none⟩) else .pointer none) ∧ wr.cell? ⟨F, 0, none⟩ = some v ∧ wr.frozen? ⟨F, 0, none⟩ = false ∧ F < wr.heap.size ∧ PRow wr v (flv mt t).length (fun j => .pointer (some ⟨Nb, (flv mt t).getD j 0 * 19, none⟩)) ∧ (∀ b, v.ownBlock = some b → F < b) ∧ Below w.heap.size w wr)
    case atStart =>
      refine ⟨0, .slice none 0 0, by omega, ?_, q1, z1, s3, Or.inl ⟨rfl, rfl⟩, fun b hb => (by cases hb), HB3.out⟩
      have h := HPV.out
      rw [h]
    case round =>
      obtain ⟨t, v, hk, hp, hv, hz, hFl, hrow, hown, hB⟩ := hrel
      have hFN := HNN.out
      obtain ⟨la, lc, hvs⟩ := hrow.slice
      subst hvs
      obtain ⟨kl, hkl⟩ : ∃ kl, kl = (flv mt t).length := ⟨_, rfl⟩
      rw [← hkl] at hv hrow hown
      have HKL := (show Hid (kl = (flv mt t).length) from hkl)
      have HRO := (show Hid (PRow wr (.slice la kl lc) kl (fun j => .pointer (some ⟨Nb, (flv mt t).getD j 0 * 19, none⟩))) from hrow)
      have HOW := (show Hid (∀ b, (Value.slice la kl lc).ownBlock = some b → F < b) from hown)
      have HBB := (show Hid (Below w.heap.size w wr) from hB)
      have hNbl := HC.out.lt
      by_cases ht : t < n
      · rw [if_pos ht] at hp
        subst hp
        have hCx : Chain wr Nb n n A L C := HC.out.keep (bs := []) (Fr.below hB) (by simp)
        have c10 := hCx.heaps t ht
        have c16 := hCx.next t ht
        obtain ⟨nv, hnv⟩ : ∃ nv : Value, nv = nxt Nb n t := ⟨_, rfl⟩
        rw [← hnv] at c16
        obtain ⟨na, hna⟩ : ∃ na, nv = .pointer na := by rw [hnv]; unfold nxt; split <;> exact ⟨_, rfl⟩
        have HNV := (show Hid (nv = nxt Nb n t) from hnv)
        subst hna
        obtain ⟨hws, hLm⟩ := HSS.out t ht
        have hwb : WordS wr b0 m (fun i => (g i : Int)) := fun i hi => by
          obtain ⟨h1, x, e, hx, hc⟩ := HS.out i hi
          exact ⟨x, e, (hB.cell (p := x.add i) (by rw [add_block]; exact hx)).trans hc⟩
        have hmc := meets_any (A t) b0 (L t) m (C t) cb (fw t) (fun i => (g i : Int)) wr (hws.below hB) hwb hLm hm
        have hmte : meetU (fw t) (fun i => (g i : Int)) (Nat.min (L t) m) = mt t := by rw [HMT.out]; rfl
        rw [hmte] at hmc
        clear hCx hnv hws hwb hmte hrow hown hB hkl hFN
        go_wp2_with fail
        refine hmc.mono ?_
        rintro e w4 ⟨rfl, f4⟩
        have d16 := f4.cell (by simp) c16
        have dv := f4.cell (by simp) hv
        have dz := (f4.frozen (b := F) (o := 0) (by simp) hFl).trans hz
        have s4 : F < w4.heap.size := Nat.lt_of_lt_of_le hFl f4.size
        have HF4 := (show Hid (Fr [] wr w4) from f4)
        clear hmc f4 c10 c16 hv hz
        have hfin : ∀ wx v', wx.cell? ⟨F, 0, none⟩ = some v' → wx.frozen? ⟨F, 0, none⟩ = false → F < wx.heap.size → PRow wx v' (flv mt (t + 1)).length (fun j => .pointer (some ⟨Nb, (flv mt (t + 1)).getD j 0 * 19, none⟩)) → (∀ b, v'.ownBlock = some b → F < b) → Below w.heap.size w wx → ∃ (t' : Nat) (v : Value), (gk - 1) + t' = n ∧ Value.pointer na = (if t' < n then .pointer (some ⟨Nb, t' * 19, none⟩) else .pointer none) ∧ wx.cell? ⟨F, 0, none⟩ = some v ∧ wx.frozen? ⟨F, 0, none⟩ = false ∧ F < wx.heap.size ∧ PRow wx v (flv mt t').length (fun j => .pointer (some ⟨Nb, (flv mt t').getD j 0 * 19, none⟩)) ∧ (∀ b, v.ownBlock = some b → F < b) ∧ Below w.heap.size w wx := by
          intro wx v' h1 h2 h3 h4 h5 h6
          refine ⟨t + 1, v', by omega, ?_, h1, h2, h3, h4, h5, h6⟩
          have := HNV.out
          rw [this]
          rfl
        have HFI := (show Hid (∀ wx v', wx.cell? ⟨F, 0, none⟩ = some v' → wx.frozen? ⟨F, 0, none⟩ = false → F < wx.heap.size → PRow wx v' (flv mt (t + 1)).length (fun j => .pointer (some ⟨Nb, (flv mt (t + 1)).getD j 0 * 19, none⟩)) → (∀ b, v'.ownBlock = some b → F < b) → Below w.heap.size w wx → ∃ (t' : Nat) (v : Value), (gk - 1) + t' = n ∧ Value.pointer na = (if t' < n then .pointer (some ⟨Nb, t' * 19, none⟩) else .pointer none) ∧ wx.cell? ⟨F, 0, none⟩ = some v ∧ wx.frozen? ⟨F, 0, none⟩ = false ∧ F < wx.heap.size ∧ PRow wx v (flv mt t').length (fun j => .pointer (some ⟨Nb, (flv mt t').getD j 0 * 19, none⟩)) ∧ (∀ b, v.ownBlock = some b → F < b) ∧ Below w.heap.size w wx) from hfin)
        clear hfin
        by_cases hv2 : mt t = true
        · rw [hv2]
          have HVV := (show Hid (mt t = true) from hv2)
          have hrow5 := (HRO.out.keep HF4.out (by simp)).keep (Fr.alloc w4 (.cells #[.pointer (some ⟨Nb, t * 19, none⟩)] 33)) (bs := []) (by simp)
          have HR5 := (show Hid (PRow (w4.alloc (.cells #[.pointer (some ⟨Nb, t * 19, none⟩)] 33)) (.slice la kl lc) kl (fun j => .pointer (some ⟨Nb, (flv mt t).getD j 0 * 19, none⟩))) from hrow5)
          have hk4 : kl ≤ 4000 := by have h1 := flv_le mt t; have h2 := HKL.out; omega
          have hnc : (w4.alloc (.cells #[.pointer (some ⟨Nb, t * 19, none⟩)] 33)).cell? ((⟨w4.heap.size, 0, none⟩ : Addr).add 0) = some (.pointer (some ⟨Nb, t * 19, none⟩)) := by rw [Addr.add_lit]; simp
          have HNC := (show Hid ((w4.alloc (.cells #[.pointer (some ⟨Nb, t * 19, none⟩)] 33)).cell? ((⟨w4.heap.size, 0, none⟩ : Addr).add 0) = some (.pointer (some ⟨Nb, t * 19, none⟩))) from hnc)
          clear hrow5 hnc hv2
          go_wp2_with (at_builtin; refine wpList_ptr rfl (.tmp 54) (.tmp 56) rfl (.slice la kl lc) kl _ rfl HR5.out hk4 ⟨w4.heap.size, 0, none⟩ 1 (.pointer (some ⟨Nb, t * 19, none⟩)) rfl HNC.out rfl ?_; intro v' w5 h1 h2 h3; obtain ⟨xa, xc, hvx⟩ := h1.slice; subst hvx; have hFo : F ∉ (Value.slice la kl lc).ownBlock.toList := fun e => Nat.lt_irrefl _ (HOW.out F (Option.mem_toList.1 e)); have g1 := h2.cell hFo (b := F) (o := 0) (old1 _ dv); have g2 := (h2.frozen hFo (b := F) (o := 0) (by simp; omega)).trans (oldz _ dv dz); have hNo : Nb ∉ (Value.slice la kl lc).ownBlock.toList := fun e => (by have h5 := HOW.out Nb (Option.mem_toList.1 e); have h6 := HNN.out; omega); have g16 := h2.cell hNo (b := Nb) (o := t * 19 + 16) (old1 _ d16))
          go_roundg (gk - 1)
          case measure => omega
          case rel =>
            have hFN := HNN.out
            have hos : ∀ b, (Value.slice xa (kl + 1) xc).ownBlock = some b → F < b := by
              intro b hb
              rcases h3 b hb with h | h
              · exact HOW.out b h
              · simp at h; omega
            have hsz5 : F < w5.heap.size := Nat.lt_of_lt_of_le s4 (Nat.le_trans (by simp) h2.size)
            have hB5 : Below w.heap.size w w5 := by
              have b1 : Below w.heap.size w w4 := HBB.out.trans (Fr.under HF4.out (by simp) (by have := HBB.out.size; omega))
              have b2 : Below w.heap.size w (w4.alloc (.cells #[.pointer (some ⟨Nb, t * 19, none⟩)] 33)) := b1.alloc b1.size _
              exact b2.trans (h2.under (by intro b hb; have := HOW.out b (Option.mem_toList.1 hb); omega) b2.size)
            refine HFI.out _ _ (World.cell?_setCell_same _ _ _ g1) (by simpa using g2) (by simpa using hsz5) ?_ hos (hB5.setCell (p := ⟨F, 0, none⟩) (by simp; omega) _)
            have h1' := h1.keep (Fr.set (bs := [F]) w5 (a := ⟨F, 0, none⟩) (by simp) (.slice xa (kl + 1) xc)) (by intro b hb e; have := hos b hb; simp at e; omega)
            have hkl := HKL.out
            rw [flv_yes HVV.out, List.length_append, ← hkl]
            refine h1'.congr (fun j hj => ?_)
            by_cases e : j < kl
            · rw [if_pos e, List.getD_eq_getElem?_getD, List.getD_eq_getElem?_getD, List.getElem?_append_left (by omega)]
            · have hje : j = (flv mt t).length := by omega
              rw [if_neg e, hje]
              simp [List.getD_eq_getElem?_getD]
        · have hvf : mt t = false := by simpa using hv2
          rw [hvf]
          have HVV := (show Hid (mt t = false) from hvf)
          clear hv2 hvf
          go_wp2
          go_roundg (gk - 1)
          case measure => omega
          case rel =>
            refine HFI.out _ _ dv dz s4 ?_ HOW.out (HBB.out.trans (Fr.under HF4.out (by simp) (by have := HBB.out.size; omega)))
            rw [flv_no HVV.out, ← HKL.out]
            exact HRO.out.keep HF4.out (by simp)
      · rw [if_neg ht] at hp
        subst hp
        have htn : t = n := by omega
        have HTN := (show Hid (t = n) from htn)
        clear htn hk hrow hown hB hkl hFN
        go_wp2
        go_meet
        refine ⟨_, hv, ?_, HBB.out⟩
        have h := HRO.out
        unfold Held
        rw [← HTN.out, ← HKL.out]
        exact h
  case rest =>
  obtain ⟨v, hv, hH, hB⟩ := hcut
  obtain ⟨la, lc, hvs⟩ := PRow.slice hH
  subst hvs
  have HH := (show Hid (Held Nb n mt wc (.slice la (flv mt n).length lc)) from hH)
  have HB := (show Hid (Below w.heap.size w wc) from hB)
  clear hH hB
  go_wp2
  go_ret
  exact ⟨_, rfl, HH.out, HB.out⟩

end Go.Proofs.YbulkaixuDoor.Walk
