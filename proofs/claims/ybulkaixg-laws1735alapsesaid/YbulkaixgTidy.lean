/-
  (*Replica).tidy (23), entered as a deferred call: at a key whose marks have a holder; at one whose marks have none, no prepare waiting.
-/
import Derived.Test.YbulkaixgMarks
import Derived.Deep.RegionWith
namespace Go.Proofs.Ybulkaixg.Marks
open Go.RowKit Go.Maps Go.WideMaps Cmp Mp
set_option linter.unusedVariables false
set_option linter.unusedSimpArgs false
set_option maxRecDepth 100000
attribute [local go_sem ↓] Go.wp_at_zero Go.wp_at_succ

theorem keepc {W w' : World} (hb : Below W.heap.size W w') {b o : Nat} {v : Value} (h : W.cell? ⟨b, o, none⟩ = some v) : w'.cell? ⟨b, o, none⟩ = some v :=
  (hb.cell (p := ⟨b, o, none⟩) (block_lt_of_cell h)).trans h

theorem grown_of {w w' w4 : World} {M : Nat} (hb : Below w.heap.size w w') (ht : w'.grownBy w4 (some M)) : w.grownBy w4 (some M) :=
  ⟨ht.os.trans hb.os, ht.tape.trans hb.tape, ht.output.trans hb.output, Nat.le_trans hb.size ht.size, fun j hj hne => (ht.block j (Nat.lt_of_lt_of_le hj hb.size) hne).trans (hb.block j hj)⟩

/-- 'wpAnyH_take', the operation's slot written out. -/
theorem takeH {P : Program} {md : Region.Mode} {ops : Array Oper} {Q : Exit → Act → World → Prop} {S : World → Prop} {i d : Nat} {oi : Oper} {v : Value} {fuel : Nat} {listed : Array Bool} {a : Act} {w : World} (hi : ops[i]? = some oi) (hd : oi.dst = some d)
    (hs : Region.noSelect ops = true) (hf : Region.free md ops listed i = true) (hr : (Region.ready md ops listed).contains i = true)
    (hQ : ∀ c a w, Q (.panic c) (a.put (some d) v) w → Q (.panic c) a w) (hy : YieldsIf P ops S oi v a) (hS : S w)
    (h : wpAnyH P md ops Q S fuel (listed.setIfInBounds i true) (a.put (some d) v) w) : wpAnyH P md ops Q S (fuel + 1) listed a w :=
  wpAnyH_take hi hs hf hr (by rw [hd]; exact hQ) hy hS (by rw [hd]; exact h)

theorem compare_zero (c : Int) (m : ByteArray) (w : World) :
    Calls Yba.prog 14 #[.agg #[.int .u64 c, .string m], .agg #[.int .u64 0, .string ⟨#[]⟩]] w fun e w' =>
      e = .returned (.int .i64 (cmpV c m.data.toList 0 [])) ∧ Below w.heap.size w w' := compare_below c 0 m ⟨#[]⟩ w

theorem tidy_held (R k h : Nat) (key : ByteArray) (u : FrameMode) (w : World) (h0 : w.cell? ⟨k, 0, none⟩ = some (.pointer (some ⟨h, 0, none⟩))) :
    CallsD Yba.prog 23 #[.pointer (some ⟨R, 0, none⟩), .string key, .pointer (some ⟨k, 0, none⟩)] u w fun e u' w' => u' = u ∧ (e = .returned (.tuple #[]) ∧ w' = w) := by
  go_enter_d Yba.func23, Yba.ntmps23
  go_wp2
  exact bodyPost_ret (results_none rfl _ _ _) rfl ⟨rfl, rfl⟩

set_option maxHeartbeats 1600000 in
theorem tidy_free (R K M k n nk : Nat) (D Dk : DataW Unit) (key : ByteArray) (pc uc : Int) (pm um : ByteArray) (u : FrameMode) (w : World) (hk : key.size ≤ maxLen)
    (h0 : w.cell? ⟨k, 0, none⟩ = some (.pointer none)) (h1 : w.cell? ⟨k, 1, none⟩ = some (.int .u64 pc)) (h2 : w.cell? ⟨k, 2, none⟩ = some (.string pm)) (h3 : w.cell? ⟨k, 3, none⟩ = some (.int .u64 uc)) (h4 : w.cell? ⟨k, 4, none⟩ = some (.string um)) (h5 : w.cell? ⟨k, 5, none⟩ = some (.map none))
    (h6 : w.cell? ⟨R, 6, none⟩ = some (.map (some K))) (h15 : w.cell? ⟨R, 15, none⟩ = some (.map (some M))) (h44 : w.cell? ⟨R, 44, none⟩ = some (.map none))
    (hKown : w.ownsMap Yba.prog 9 ptrE K nk Dk) (hDk : ∀ l, Dk.atKey l .nil = .nil) (hMown : w.ownsMap Yba.prog 9 ptrE M n D) :
    CallsD Yba.prog 23 #[.pointer (some ⟨R, 0, none⟩), .string key, .pointer (some ⟨k, 0, none⟩)] u w fun e u' w' => u' = u ∧ (e = .returned (.tuple #[]) ∧ w.grownBy w' (some M)) := by
  have hkl := block_lt_of_cell h0
  have hRl := block_lt_of_cell h6
  have hlen : ∀ (w : World), (Builtin.len_ #[124] 3 #[.map none]).run Yba.prog w = .ok (.int .i64 0) w := fun w => by kernel_rfl
  go_enter_d Yba.func23, Yba.ntmps23
  go_wp2_with fail
  refine (record_none R K nk Dk key _ hk h6 hRl hKown hDk).mono ?_
  rintro e w1 ⟨rfl, o, rfl⟩
  go_wp2_with fail
  refine (under_zero _).mono ?_
  rintro e w2 ⟨rfl, hb⟩
  have hb2 : Below w.heap.size w w2 := ((Below.refl _ _).alloc (Nat.le_refl _) _).trans (hb.mono (by simp))
  clear hb
  have g1 := keepc hb2 h1
  have g2 := keepc hb2 h2
  have g3 := keepc hb2 h3
  have g4 := keepc hb2 h4
  have g15 := keepc hb2 h15
  have g44 := keepc hb2 h44
  have hM2 : w2.ownsMap Yba.prog 9 ptrE M n D := hMown.kept (row := none) ⟨hb2.os, hb2.tape, hb2.output, hb2.size, fun j hj _ => hb2.block j hj⟩ (by simp)
  clear h0 h1 h2 h3 h4 h5 h6 h15 h44 hKown hMown hlen
  go_wp2_with fail
  obtain ⟨sB, hsB⟩ : ∃ sB, sB = w2.heap.size := ⟨_, rfl⟩
  obtain ⟨w3, hw3⟩ : ∃ w3, w3 = w2.alloc (.cells #[.int .u64 0, .string ⟨#[]⟩] 31) := ⟨_, rfl⟩
  rw [← hw3, ← hsB]
  have hb23 : Below w2.heap.size w2 w3 := by rw [hw3]; exact (Below.refl _ _).alloc (Nat.le_refl _) _
  have s0 : w3.cell? ⟨sB, 0, none⟩ = some (.int .u64 0) := by rw [hw3, hsB]; simp
  have s1 : w3.cell? ⟨sB, 1, none⟩ = some (.string ⟨#[]⟩) := by rw [hw3, hsB]; simp
  have p1 := keepc hb23 g1
  have p2 := keepc hb23 g2
  have p3 := keepc hb23 g3
  have p4 := keepc hb23 g4
  have p15 := keepc hb23 g15
  have p44 := keepc hb23 g44
  have hM3 : w3.ownsMap Yba.prog 9 ptrE M n D := hM2.kept (row := none) ⟨hb23.os, hb23.tape, hb23.output, hb23.size, fun j hj _ => hb23.block j hj⟩ (by simp)
  have hb3 : Below w.heap.size w w3 := hb2.trans (hb23.mono hb2.size)
  clear hw3 hsB hb23 hM2 hb2 g1 g2 g3 g4 g15 g44
  have hMk : ∀ {W w' : World}, Below W.heap.size W w' → W.ownsMap Yba.prog 9 ptrE M n D → w'.ownsMap Yba.prog 9 ptrE M n D := fun hb h => h.kept (row := none) ⟨hb.os, hb.tape, hb.output, hb.size, fun j hj _ => hb.block j hj⟩ (by simp)
  have hbk : ∀ {W w' : World}, Below W.heap.size W w' → Below w.heap.size w W → Below w.heap.size w w' := fun hb h => h.trans (hb.mono h.size)
  by_cases hc1 : cmpV uc um.data.toList 0 [] ≤ 0
  · have c1 : decide (cmpV uc um.data.toList 0 [] ≤ 0) = true := by simpa using hc1
    by_cases hc2 : cmpV pc pm.data.toList 0 [] ≤ 0
    · have c2 : decide (cmpV pc pm.data.toList 0 [] ≤ 0) = true := by simpa using hc2
      go_region_held3 (fun w' => w'.cell? ⟨k, 1, none⟩ = some (.int .u64 pc) ∧ w'.cell? ⟨k, 2, none⟩ = some (.string pm) ∧ w'.cell? ⟨k, 3, none⟩ = some (.int .u64 uc) ∧ w'.cell? ⟨k, 4, none⟩ = some (.string um) ∧ w'.cell? ⟨sB, 0, none⟩ = some (.int .u64 0) ∧ w'.cell? ⟨sB, 1, none⟩ = some (.string ⟨#[]⟩) ∧ w'.cell? ⟨R, 44, none⟩ = some (.map none) ∧ w'.cell? ⟨R, 15, none⟩ = some (.map (some M))) (refine ⟨?_, ?_, ?_, ?_, ?_, ?_, ?_, ?_⟩ <;> first | assumption | exact p1 | exact p2 | exact p3 | exact p4 | exact s0 | exact s1 | exact p44 | exact p15)
        (first
          | (go_at_call 44; refine (kept_zero R key _ ?a1 ?a2).mono ?_; (case a1 => first | exact p44 | assumption); (case a2 => first | exact block_lt_of_cell p44 | exact block_lt_of_cell (by assumption)); rintro e w' ⟨rfl, hb⟩; have q_k_1 := keepc hb (b := k) (o := 1) (v := .int .u64 pc) (by first | exact p1 | assumption); have q_k_2 := keepc hb (b := k) (o := 2) (v := .string pm) (by first | exact p2 | assumption); have q_k_3 := keepc hb (b := k) (o := 3) (v := .int .u64 uc) (by first | exact p3 | assumption); have q_k_4 := keepc hb (b := k) (o := 4) (v := .string um) (by first | exact p4 | assumption); have q_sB_0 := keepc hb (b := sB) (o := 0) (v := .int .u64 0) (by first | exact s0 | assumption); have q_sB_1 := keepc hb (b := sB) (o := 1) (v := .string ⟨#[]⟩) (by first | exact s1 | assumption); have q_R_44 := keepc hb (b := R) (o := 44) (v := .map none) (by first | exact p44 | assumption); have q_R_15 := keepc hb (b := R) (o := 15) (v := .map (some M)) (by first | exact p15 | assumption); have hMx := hMk hb (by first | exact hM3 | assumption); have hbx := hbk hb (by first | exact hb3.drew | assumption))
          | (go_at_call_of 14 (uc); (refine (compare_zero uc um _).mono ?_; rintro e w' ⟨rfl, hb⟩; have q_k_1 := keepc hb (b := k) (o := 1) (v := .int .u64 pc) (by first | exact p1 | assumption); have q_k_2 := keepc hb (b := k) (o := 2) (v := .string pm) (by first | exact p2 | assumption); have q_k_3 := keepc hb (b := k) (o := 3) (v := .int .u64 uc) (by first | exact p3 | assumption); have q_k_4 := keepc hb (b := k) (o := 4) (v := .string um) (by first | exact p4 | assumption); have q_sB_0 := keepc hb (b := sB) (o := 0) (v := .int .u64 0) (by first | exact s0 | assumption); have q_sB_1 := keepc hb (b := sB) (o := 1) (v := .string ⟨#[]⟩) (by first | exact s1 | assumption); have q_R_44 := keepc hb (b := R) (o := 44) (v := .map none) (by first | exact p44 | assumption); have q_R_15 := keepc hb (b := R) (o := 15) (v := .map (some M)) (by first | exact p15 | assumption); have hMx := hMk hb (by first | exact hM3 | assumption); have hbx := hbk hb (by first | exact hb3.drew | assumption)))
          | (go_at_call_of 14 (pc); refine (compare_zero pc pm _).mono ?_; rintro e w' ⟨rfl, hb⟩; have q_k_1 := keepc hb (b := k) (o := 1) (v := .int .u64 pc) (by first | exact p1 | assumption); have q_k_2 := keepc hb (b := k) (o := 2) (v := .string pm) (by first | exact p2 | assumption); have q_k_3 := keepc hb (b := k) (o := 3) (v := .int .u64 uc) (by first | exact p3 | assumption); have q_k_4 := keepc hb (b := k) (o := 4) (v := .string um) (by first | exact p4 | assumption); have q_sB_0 := keepc hb (b := sB) (o := 0) (v := .int .u64 0) (by first | exact s0 | assumption); have q_sB_1 := keepc hb (b := sB) (o := 1) (v := .string ⟨#[]⟩) (by first | exact s1 | assumption); have q_R_44 := keepc hb (b := R) (o := 44) (v := .map none) (by first | exact p44 | assumption); have q_R_15 := keepc hb (b := R) (o := 15) (v := .map (some M)) (by first | exact p15 | assumption); have hMx := hMk hb (by first | exact hM3 | assumption); have hbx := hbk hb (by first | exact hb3.drew | assumption)))
      obtain ⟨w4, hdel, hM4, hturn⟩ := hMx.drop law9 Yba.underlying59 (keyOf_string_mk Yba.underlying9 hk) 0
      have hg := grown_of hbx hturn.grown
      go_wp2
      go_end0
      exact ⟨rfl, hg⟩
    · have c2 : decide (cmpV pc pm.data.toList 0 [] ≤ 0) = false := by simpa using hc2
      go_region_held3 (fun w' => w'.cell? ⟨k, 1, none⟩ = some (.int .u64 pc) ∧ w'.cell? ⟨k, 2, none⟩ = some (.string pm) ∧ w'.cell? ⟨k, 3, none⟩ = some (.int .u64 uc) ∧ w'.cell? ⟨k, 4, none⟩ = some (.string um) ∧ w'.cell? ⟨sB, 0, none⟩ = some (.int .u64 0) ∧ w'.cell? ⟨sB, 1, none⟩ = some (.string ⟨#[]⟩) ∧ w'.cell? ⟨R, 44, none⟩ = some (.map none) ∧ w'.cell? ⟨R, 15, none⟩ = some (.map (some M))) (refine ⟨?_, ?_, ?_, ?_, ?_, ?_, ?_, ?_⟩ <;> first | assumption | exact p1 | exact p2 | exact p3 | exact p4 | exact s0 | exact s1 | exact p44 | exact p15)
        (first
          | (go_at_call 44; refine (kept_zero R key _ ?a1 ?a2).mono ?_; (case a1 => first | exact p44 | assumption); (case a2 => first | exact block_lt_of_cell p44 | exact block_lt_of_cell (by assumption)); rintro e w' ⟨rfl, hb⟩; have q_k_1 := keepc hb (b := k) (o := 1) (v := .int .u64 pc) (by first | exact p1 | assumption); have q_k_2 := keepc hb (b := k) (o := 2) (v := .string pm) (by first | exact p2 | assumption); have q_k_3 := keepc hb (b := k) (o := 3) (v := .int .u64 uc) (by first | exact p3 | assumption); have q_k_4 := keepc hb (b := k) (o := 4) (v := .string um) (by first | exact p4 | assumption); have q_sB_0 := keepc hb (b := sB) (o := 0) (v := .int .u64 0) (by first | exact s0 | assumption); have q_sB_1 := keepc hb (b := sB) (o := 1) (v := .string ⟨#[]⟩) (by first | exact s1 | assumption); have q_R_44 := keepc hb (b := R) (o := 44) (v := .map none) (by first | exact p44 | assumption); have q_R_15 := keepc hb (b := R) (o := 15) (v := .map (some M)) (by first | exact p15 | assumption); have hMx := hMk hb (by first | exact hM3 | assumption); have hbx := hbk hb (by first | exact hb3.drew | assumption))
          | (go_at_call_of 14 (uc); (refine (compare_zero uc um _).mono ?_; rintro e w' ⟨rfl, hb⟩; have q_k_1 := keepc hb (b := k) (o := 1) (v := .int .u64 pc) (by first | exact p1 | assumption); have q_k_2 := keepc hb (b := k) (o := 2) (v := .string pm) (by first | exact p2 | assumption); have q_k_3 := keepc hb (b := k) (o := 3) (v := .int .u64 uc) (by first | exact p3 | assumption); have q_k_4 := keepc hb (b := k) (o := 4) (v := .string um) (by first | exact p4 | assumption); have q_sB_0 := keepc hb (b := sB) (o := 0) (v := .int .u64 0) (by first | exact s0 | assumption); have q_sB_1 := keepc hb (b := sB) (o := 1) (v := .string ⟨#[]⟩) (by first | exact s1 | assumption); have q_R_44 := keepc hb (b := R) (o := 44) (v := .map none) (by first | exact p44 | assumption); have q_R_15 := keepc hb (b := R) (o := 15) (v := .map (some M)) (by first | exact p15 | assumption); have hMx := hMk hb (by first | exact hM3 | assumption); have hbx := hbk hb (by first | exact hb3.drew | assumption)))
          | (go_at_call_of 14 (pc); refine (compare_zero pc pm _).mono ?_; rintro e w' ⟨rfl, hb⟩; have q_k_1 := keepc hb (b := k) (o := 1) (v := .int .u64 pc) (by first | exact p1 | assumption); have q_k_2 := keepc hb (b := k) (o := 2) (v := .string pm) (by first | exact p2 | assumption); have q_k_3 := keepc hb (b := k) (o := 3) (v := .int .u64 uc) (by first | exact p3 | assumption); have q_k_4 := keepc hb (b := k) (o := 4) (v := .string um) (by first | exact p4 | assumption); have q_sB_0 := keepc hb (b := sB) (o := 0) (v := .int .u64 0) (by first | exact s0 | assumption); have q_sB_1 := keepc hb (b := sB) (o := 1) (v := .string ⟨#[]⟩) (by first | exact s1 | assumption); have q_R_44 := keepc hb (b := R) (o := 44) (v := .map none) (by first | exact p44 | assumption); have q_R_15 := keepc hb (b := R) (o := 15) (v := .map (some M)) (by first | exact p15 | assumption); have hMx := hMk hb (by first | exact hM3 | assumption); have hbx := hbk hb (by first | exact hb3.drew | assumption)))
      go_wp2
      go_end0
      exact ⟨rfl, grown_of hbx (World.grownBy.refl _ _)⟩
  · have c1 : decide (cmpV uc um.data.toList 0 [] ≤ 0) = false := by simpa using hc1
    refine wp_region_held_drew (S := fun w' => w'.cell? ⟨k, 3, none⟩ = some (.int .u64 uc) ∧ w'.cell? ⟨k, 4, none⟩ = some (.string um) ∧ w'.cell? ⟨sB, 0, none⟩ = some (.int .u64 0) ∧ w'.cell? ⟨sB, 1, none⟩ = some (.string ⟨#[]⟩)) (by kernel_rfl) ⟨p3, p4, s0, s1⟩ (fun hH => ?_)
    refine takeH (i := 0) (d := 24) (v := .pointer (some ⟨k, 0, none⟩)) rfl rfl (by kernel_rfl) (by kernel_rfl) (by kernel_rfl) (fun _ _ _ h => h) (Or.inl ⟨by rfl, fun w hSw => by (try dsimp only at hSw); go_simp⟩) hH ?_
    simp only [Act.put, List.setIfInBounds_toArray, List.set_cons_zero, List.set_cons_succ]
    refine takeH (i := 1) (d := 25) (v := .pointer (some ⟨k, 0, none⟩)) rfl rfl (by kernel_rfl) (by kernel_rfl) (by kernel_rfl) (fun _ _ _ h => h) (Or.inl ⟨by rfl, fun w hSw => by (try dsimp only at hSw); go_simp⟩) hH ?_
    simp only [Act.put, List.setIfInBounds_toArray, List.set_cons_zero, List.set_cons_succ]
    refine takeH (i := 2) (d := 26) (v := .pointer (some ⟨k, 3, none⟩)) rfl rfl (by kernel_rfl) (by kernel_rfl) (by kernel_rfl) (fun _ _ _ h => h) (Or.inl ⟨by rfl, fun w hSw => by (try dsimp only at hSw); go_simp⟩) hH ?_
    simp only [Act.put, List.setIfInBounds_toArray, List.set_cons_zero, List.set_cons_succ]
    refine takeH (i := 3) (d := 27) (v := .agg #[.int .u64 uc, .string um]) rfl rfl (by kernel_rfl) (by kernel_rfl) (by kernel_rfl) (fun _ _ _ h => h) (Or.inl ⟨by rfl, fun w hSw => by (try dsimp only at hSw); go_simp⟩) hH ?_
    simp only [Act.put, List.setIfInBounds_toArray, List.set_cons_zero, List.set_cons_succ]
    refine takeH (i := 4) (d := 28) (v := .agg #[.int .u64 0, .string ⟨#[]⟩]) rfl rfl (by kernel_rfl) (by kernel_rfl) (by kernel_rfl) (fun _ _ _ h => h) (Or.inl ⟨by rfl, fun w hSw => by (try dsimp only at hSw); go_simp⟩) hH ?_
    simp only [Act.put, List.setIfInBounds_toArray, List.set_cons_zero, List.set_cons_succ]
    refine wpAnyH_ready (rs := [5]) (by kernel_rfl) (by simp) ?_
    refine AllReadyH.cons rfl (fun K hK => ?_) AllReadyH.nil
    go_simp
    refine (compare_zero uc um _).mono ?_
    rintro e w' ⟨rfl, hb⟩
    have hbx := hbk hb hb3.drew
    refine hK.out _ _ ⟨keepc hb p3, keepc hb p4, keepc hb s0, keepc hb s1⟩ (fun hH2 => ?_)
    clear hK K
    refine takeH (i := 6) (d := 30) (v := .bool false) rfl rfl (by kernel_rfl) (by kernel_rfl) (by kernel_rfl) (fun _ _ _ h => h) (Or.inl ⟨by rfl, fun w hSw => by (try dsimp only at hSw); go_simp⟩) hH2 ?_
    simp only [Act.put, List.setIfInBounds_toArray, List.set_cons_zero, List.set_cons_succ]
    refine takeH (i := 7) (d := 31) (v := .bool false) rfl rfl (by kernel_rfl) (by kernel_rfl) (by kernel_rfl) (fun _ _ _ h => h) (Or.inl ⟨by rfl, fun w hSw => by (try dsimp only at hSw); go_simp⟩) hH2 ?_
    simp only [Act.put, List.setIfInBounds_toArray, List.set_cons_zero, List.set_cons_succ]
    refine takeH (i := 8) (d := 32) (v := undef) rfl rfl (by kernel_rfl) (by kernel_rfl) (by kernel_rfl) (fun _ _ _ h => h) (Or.inr ⟨by kernel_rfl, rfl⟩) hH2 ?_
    simp only [Act.put, List.setIfInBounds_toArray, List.set_cons_zero, List.set_cons_succ]
    refine takeH (i := 9) (d := 33) (v := undef) rfl rfl (by kernel_rfl) (by kernel_rfl) (by kernel_rfl) (fun _ _ _ h => h) (Or.inr ⟨by kernel_rfl, rfl⟩) hH2 ?_
    simp only [Act.put, List.setIfInBounds_toArray, List.set_cons_zero, List.set_cons_succ]
    refine takeH (i := 10) (d := 34) (v := undef) rfl rfl (by kernel_rfl) (by kernel_rfl) (by kernel_rfl) (fun _ _ _ h => h) (Or.inr ⟨by kernel_rfl, rfl⟩) hH2 ?_
    simp only [Act.put, List.setIfInBounds_toArray, List.set_cons_zero, List.set_cons_succ]
    refine takeH (i := 11) (d := 35) (v := undef) rfl rfl (by kernel_rfl) (by kernel_rfl) (by kernel_rfl) (fun _ _ _ h => h) (Or.inr ⟨by kernel_rfl, rfl⟩) hH2 ?_
    simp only [Act.put, List.setIfInBounds_toArray, List.set_cons_zero, List.set_cons_succ]
    refine takeH (i := 12) (d := 36) (v := undef) rfl rfl (by kernel_rfl) (by kernel_rfl) (by kernel_rfl) (fun _ _ _ h => h) (Or.inr ⟨by kernel_rfl, rfl⟩) hH2 ?_
    simp only [Act.put, List.setIfInBounds_toArray, List.set_cons_zero, List.set_cons_succ]
    refine takeH (i := 13) (d := 37) (v := undef) rfl rfl (by kernel_rfl) (by kernel_rfl) (by kernel_rfl) (fun _ _ _ h => h) (Or.inr ⟨by kernel_rfl, rfl⟩) hH2 ?_
    simp only [Act.put, List.setIfInBounds_toArray, List.set_cons_zero, List.set_cons_succ]
    refine takeH (i := 14) (d := 38) (v := undef) rfl rfl (by kernel_rfl) (by kernel_rfl) (by kernel_rfl) (fun _ _ _ h => h) (Or.inr ⟨by kernel_rfl, rfl⟩) hH2 ?_
    simp only [Act.put, List.setIfInBounds_toArray, List.set_cons_zero, List.set_cons_succ]
    refine takeH (i := 15) (d := 39) (v := undef) rfl rfl (by kernel_rfl) (by kernel_rfl) (by kernel_rfl) (fun _ _ _ h => h) (Or.inr ⟨by kernel_rfl, rfl⟩) hH2 ?_
    simp only [Act.put, List.setIfInBounds_toArray, List.set_cons_zero, List.set_cons_succ]
    refine takeH (i := 16) (d := 40) (v := undef) rfl rfl (by kernel_rfl) (by kernel_rfl) (by kernel_rfl) (fun _ _ _ h => h) (Or.inr ⟨by kernel_rfl, rfl⟩) hH2 ?_
    simp only [Act.put, List.setIfInBounds_toArray, List.set_cons_zero, List.set_cons_succ]
    refine takeH (i := 17) (d := 41) (v := undef) rfl rfl (by kernel_rfl) (by kernel_rfl) (by kernel_rfl) (fun _ _ _ h => h) (Or.inr ⟨by kernel_rfl, rfl⟩) hH2 ?_
    simp only [Act.put, List.setIfInBounds_toArray, List.set_cons_zero, List.set_cons_succ]
    refine takeH (i := 18) (d := 42) (v := .bool false) rfl rfl (by kernel_rfl) (by kernel_rfl) (by kernel_rfl) (fun _ _ _ h => h) (Or.inl ⟨by rfl, fun w hSw => by (try dsimp only at hSw); go_simp⟩) hH2 ?_
    simp only [Act.put, List.setIfInBounds_toArray, List.set_cons_zero, List.set_cons_succ]
    refine wpAnyH_done (by kernel_rfl) ?_ _
    go_wp2
    go_end0
    exact ⟨rfl, grown_of hbx (World.grownBy.refl _ _)⟩

end Go.Proofs.Ybulkaixg.Marks
