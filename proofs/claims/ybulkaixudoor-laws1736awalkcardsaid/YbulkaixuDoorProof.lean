/-
  'Rows.LawS1736AWalkCardSaid': the tied card of lockwright.LawS1736AWalk: for every input it returns true and the input reads as it did.
-/
import Derived.Test.YbulkaixuDoorRows
import Derived.Test.YbulkaixuDoorTie
import Derived.Test.YbulkaixuDoorCards
import Derived.Test.YbulkaixuDoorLaw
import Derived.WalkKit
import Derived.ProofKit
import Derived.LaidMore
import Derived.OpenShut
import Derived.Stop.Joined
import Derived.ChangeOld
import Derived.Below
import Derived.Deep.Matrix
import Derived.Lib.LaidTab
import Derived.SevenTiedAt
namespace Go.Proofs.YbulkaixuDoor.lawS1736AWalk
open Go.ChangeShapes Go.WideShapes Go.ChangeAt Go.RowKit
set_option linter.unusedVariables false

theorem own : ownKnob Ybad.prog.godebug = none := by kernel_rfl
theorem laidOut : laidOutB Ybad.prog = true := by kernel_rfl
theorem gTabType : (Ybad.prog.globals[0]?).map (·.type) = some 94 := by kernel_rfl
theorem cells5 : Ybad.prog.cellsOf 5 = 1 := by kernel_rfl
theorem cells94 : Ybad.prog.cellsOf 94 = 64 := by kernel_rfl

def tab : List Int := [0, 1, 56, 2, 57, 49, 28, 3, 61, 58, 42, 50, 38, 29, 17, 4, 62, 47, 59, 36, 45, 43, 51, 22, 53, 39, 33, 30, 24, 18, 12, 5, 63, 55, 48, 27, 60, 41, 37, 16, 46, 35, 44, 21, 52, 32, 23, 11, 54, 26, 40, 15, 34, 20, 31, 10, 25, 14, 19, 9, 13, 8, 7, 6]
theorem laid_eq : ∃ nm, Rows.lawS1736AWalkRow.laid = [(nm, Lib.tabData .u8 tab)] ∧ Ybad.prog.globalNamed nm = some 0 := ⟨_, rfl, by kernel_rfl⟩
theorem tab_len : tab.length = 64 := by decide
theorem tab_byte : ∀ z ∈ tab, 0 ≤ z ∧ z ≤ 255 := by decide

/-- The door's own heap meets the condition. -/
theorem door_met (os : Os) (args : Array Value) : laidMetH Ybad.prog Rows.lawS1736AWalkRow.laid ((World.doorLaid Ybad.prog 14 os).forCall (fun _ _ => 0) ⟨#[], args, []⟩).memory :=
  laidMetH_of_parts3 (fuel := 8) (laidMet_of_run' 8 (by kernel_rfl) (by kernel_rfl)) (by kernel_rfl) (by kernel_rfl)

theorem tab_of {W : World} (h : laidMetH Ybad.prog Rows.lawS1736AWalkRow.laid W) : Walk.Tab W := by
  obtain ⟨nm, he, gTab⟩ := laid_eq
  rw [MakeChecks.laidMetH_plain _ _ _ (by kernel_rfl), he] at h
  have hT := Lib.tabIs_of_head gTab gTabType Ybad.underlying94 Ybad.underlying5 cells5 cells94 h
  intro j hj
  have hc := hT.cell gTab j (by rw [tab_len]; exact hj)
  have hb := tab_byte (tab.getD j 0) (by
    rw [List.getD_eq_getElem?_getD, List.getElem?_eq_getElem (by rw [tab_len]; exact hj)]
    exact List.getElem_mem _)
  refine ⟨(tab.getD j 0).toNat, by omega, ?_⟩
  rw [hc]
  congr 2
  omega

set_option maxRecDepth 100000 in
theorem lifted (os : Os) (started : os.Started) (H : Type) (enc : TypeId × Value → H) :
    ReturnsInHanded {} Ybad.checked os 3 .any (fun w args => (Rows.lawS1736AWalkSpec.pre enc Ybad.prog Ybad.f3 [] false w args ∧ laidMetH Ybad.prog Rows.lawS1736AWalkRow.laid w) ∧ sizedMet enc Ybad.prog Ybad.f3 (OpenSpec.ofChange Rows.lawS1736AWalkSpec) false w args)
      (Rows.lawS1736AWalkSpec.post enc Ybad.prog Ybad.f3 false true false false) := by
  refine returnsInHanded_of_change_and (C := Ybad.checked) (X := fun w _ => laidMetH Ybad.prog Rows.lawS1736AWalkRow.laid w) (fun _ _ _ hh h => h.of_heap hh) own started (by kernel_rfl) Ybad.func3
    (ChangeSpec.witness_shaped (enc := enc) (C := Ybad.checked) (os := os) (X := fun w _ => laidMetH Ybad.prog Rows.lawS1736AWalkRow.laid w) false (World.doorLaid Ybad.prog 14 os) #[.slice none 0 0, .slice none 0 0, .int .u8 0] 8 rfl (World.shaped_of_RefB (by kernel_rfl) (by kernel_rfl)) (by kernel_rfl) (by kernel_rfl) (by kernel_rfl) (door_met os _)) ?_
  intro W base args ds gs before hval0 hW _ _ hL _
  have hval : ∀ (j : Nat) t v, Ybad.f3.params[j]? = some t → args[j]? = some v → Value.okWide Ybad.prog W .any base t v := hval0
  have hW' := hW
  obtain ⟨p, q, hA0, hV, rfl, hfz, hnd⟩ := hW
  have hA : DataW.TrodAll enc Ybad.prog W 0 (fun _ => true) true Ybad.f3.params.toList args.toList ds p := hA0
  rw [Ybad.params3] at hA hval
  obtain ⟨v0, vs0, d0, ds0, p0, q0, hargs, rfl, rfl, h0, r0⟩ := trodAll_cons hA
  obtain ⟨v1, vs1, d1, ds1, p1, q1, rfl, rfl, rfl, h1, r1⟩ := trodAll_cons r0
  obtain ⟨v2, vs2, d2, ds2, p2, q2, rfl, rfl, rfl, h2, r2⟩ := trodAll_cons r1
  obtain ⟨rfl, rfl, rfl⟩ := trodAll_nil r2
  obtain rfl : args = #[v0, v1, v2] := by cases args; simp_all
  obtain ⟨rfl, rfl⟩ := trodVars_none hV
  obtain ⟨a0, len0, cap0, rfl⟩ := okWide_slice Ybad.underlying22 (hval 0 22 v0 rfl rfl)
  obtain ⟨a1, len1, cap1, rfl⟩ := okWide_slice Ybad.underlying23 (hval 1 23 v1 rfl rfl)
  have k0 := h0
  have k1 := h1
  have lt0 : ∀ x ∈ p0, x.block < W.heap.size := by obtain ⟨m, hm⟩ := k0; exact DataW.trod_lt m _ _ _ hm
  have lt1 : ∀ x ∈ p1, x.block < W.heap.size := by obtain ⟨m, hm⟩ := k1; exact DataW.trod_lt m _ _ _ hm
  obtain ⟨A, L, C, fw, hSets, hsets⟩ : ∃ (A : Nat → Option Addr) (L C : Nat → Nat) (fw : Nat → Nat → Int), Walk.Sets W a0 len0 A L C ∧ ∀ i, i < len0 → Walk.WordS W (A i) (L i) (fw i) ∧ L i ≤ maxLen := by
    obtain ⟨fuel, hf⟩ := h0
    rcases Deep.open_int_rows Ybad.underlying22 Ybad.underlying23 Ybad.underlying40 (by kernel_rfl) (by kernel_rfl) hf with ⟨hcs, _⟩ | ⟨x, l, c, A, L, C, Z, hcs, _, hl, hm, _, hx⟩
    · simp [Value.cells] at hcs
      obtain ⟨rfl, rfl, rfl⟩ := hcs
      exact ⟨fun _ => none, fun _ => 0, fun _ => 0, fun _ _ => 0, fun i hi => by omega, fun i hi => by omega⟩
    · simp [Value.cells] at hcs
      obtain ⟨rfl, rfl, rfl⟩ := hcs
      refine ⟨A, L, C, fun i c => (Z i).getD c 0, fun i hi => ⟨_, rfl, (hx i (by omega)).1⟩, fun i hi => ?_⟩
      obtain ⟨_, h2, h3, _, _, h6, h7⟩ := hx i (by omega)
      refine ⟨fun c hc => ?_, by omega⟩
      cases hAi : A i with
      | none => have := h6 hAi; omega
      | some a' => exact ⟨a', rfl, (h7 a' hAi).2 c (by omega)⟩
  obtain ⟨g, hset⟩ : ∃ g : Nat → Nat, Walk.WordB W W.heap.size a1 len1 g := by
    obtain ⟨fuel, hf⟩ := h1
    rcases open_ints Ybad.underlying23 Ybad.underlying40 (by kernel_rfl) hf with ⟨hcs, _⟩ | ⟨x, l, c, zs, hcs, _, hl, hm, hz, _, hcell, hwz⟩
    · simp [Value.cells] at hcs
      obtain ⟨rfl, rfl, rfl⟩ := hcs
      exact ⟨fun _ => 0, fun i hi => by omega⟩
    · simp [Value.cells] at hcs
      obtain ⟨rfl, rfl, rfl⟩ := hcs
      refine ⟨fun i => (zs.getD i 0).toNat, fun i hi => ?_⟩
      have hi2 : i < zs.length := by
        have hzl := hz
        simp at hzl
        omega
      have hmem : zs.getD i 0 ∈ zs := by
        rw [List.getD_eq_getElem?_getD, List.getElem?_eq_getElem hi2]
        exact List.getElem_mem _
      have hw := hwz _ hmem
      have hmin : IntKind.u64.min = 0 := by decide
      have hmax : IntKind.u64.max = 18446744073709551615 := by decide
      simp [Lit.wf, hmin, hmax] at hw
      have hc := hcell i hi2
      have he : ((zs.getD i 0).toNat : Int) = zs.getD i 0 := by
        have h1 := hw.1
        simp only [List.getD_eq_getElem?_getD]
        omega
      have hcl := Walk.cell_lt hc
      rw [Walk.add_block] at hcl
      refine ⟨?_, _, rfl, hcl, by rw [he]; exact hc⟩
      have h2 := hw.2
      simp only [List.getD_eq_getElem?_getD]
      omega
  obtain ⟨a2, rfl, rfl, rfl, w2⟩ := open_int Ybad.underlying5 (hval 2 5 v2 rfl rfl) h2
  have hT := tab_of hL
  clear hA0 hval0
  have hbm : 0 ≤ a2 ∧ a2 ≤ 255 := by
    have h1 : IntKind.u8.min = 0 := by decide
    have h2 : IntKind.u8.max = 255 := by decide
    have h3 := w2
    simp [Lit.wf, h1, h2] at h3
    exact h3
  obtain ⟨k, rfl⟩ : ∃ k : Nat, a2 = (k : Int) := ⟨a2.toNat, by omega⟩
  refine (Walk.law_walk a0 len0 cap0 A L C fw a1 len1 cap1 g k W hSets hsets hset hT (by omega)).mono fun e W' ⟨he, bel⟩ => ?_
  subst he
  exact ⟨_, rfl, _, _, _, [], _, [], hW', trodAll_mk1 (shut_bool Ybad.underlying4 _), (trodAll_cons_mk (Below.trod laidOut (by kernel_rfl) (of_decide_eq_true (by kernel_rfl)) k0 bel lt0) (trodAll_cons_mk (Below.trod laidOut (by kernel_rfl) (of_decide_eq_true (by kernel_rfl)) k1 bel lt1) (trodAll_cons_mk (shut_int Ybad.underlying5 w2) trodAll_mk0))), rfl, bel.frame _, fun h => by cases h⟩

theorem holds : Rows.LawS1736AWalkSaid :=
  OpenClaim.holds_of_wide 3 Ybad.f3 rfl rfl rfl rfl rfl rfl rfl ⟨rfl, rfl, rfl, rfl, rfl⟩ rfl rfl rfl rfl rfl (by kernel_rfl) Ybad.func3 (by kernel_rfl)
    (of_decide_eq_true (by kernel_rfl)) (by unfold Func.isWrapper; first | (rw [if_pos (by decide +kernel)]; kernel_rfl) | (rw [if_neg (by decide +kernel)]; exact ⟨rfl, rfl⟩))
    (fun os started H enc _ => lifted os started H enc)

/-- The card. -/
theorem proved : Rows.LawS1736AWalkCardSaid :=
  Claim7.holds_tied_plain_at .later [] [.data] true (true, "75206e1c025f686685a45f7966c1b26495ef414f031fbeb1a65d70a0df86322d") false
    holds (fun _ h => by cases h) (by kernel_rfl) (fun _ h => by cases h) lawS1736AWalk_row_tie rfl ⟨rfl, rfl⟩ (by kernel_rfl) rfl
    (fun f fn hf hfn => by
      obtain rfl : f = 3 := Option.some.inj ((show Ybad.prog.funcNamed Rows.lawS1736AWalkRow.func = some 3 by kernel_rfl).symm.trans hf) |>.symm
      obtain rfl : fn = Ybad.f3 := (Option.some.inj (Ybad.func3.symm.trans hfn)).symm
      exact ⟨by kernel_rfl, fun j t ht => by
        rw [Ybad.params3] at ht
        have hm : t ∈ [22, 23, 5] := by simpa using Array.mem_of_getElem? ht
        have hall : ([22, 23, 5].all fun u => !Ybad.prog.wantsStandIn u) = true := by kernel_rfl
        exact (show Ybad.prog.wantsStandIn t = false by simpa using List.all_eq_true.1 hall t hm)⟩)
    (by kernel_rfl)
end Go.Proofs.YbulkaixuDoor.lawS1736AWalk
