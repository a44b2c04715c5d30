/-
  (*waitOrder).remove (8), (*alarm).forget (6).
-/
import Derived.Test.YbulkaixuDrop
import Derived.Test.YbulkaixuRebuild
namespace Go.Proofs.Ybulkaixu.Cnt
open Go.RowKit
set_option linter.unusedVariables false
set_option linter.unusedSimpArgs false
set_option maxRecDepth 100000

/-- How many of the waits have ended. -/
def ded (lvf : Nat → Bool) (its : List Nat) : Nat := (its.filter (fun i => !lvf i)).length
/-- The first wait is live, if there is one. -/
def Good (lvf : Nat → Bool) (its : List Nat) : Prop := its = [] ∨ ∃ i r, its = i :: r ∧ lvf i = true

theorem filter_dead {lvf : Nat → Bool} {l : List Nat} (h : ∀ i, i ∈ l → lvf i = false) : l.filter lvf = [] := by
  rw [List.filter_eq_nil_iff]
  intro i hi
  simp [h i hi]
theorem ded_dead {lvf : Nat → Bool} {l : List Nat} (h : ∀ i, i ∈ l → lvf i = false) : ded lvf l = l.length := by
  unfold ded
  rw [List.filter_eq_self.2 (fun i hi => by simp [h i hi])]
theorem ded_append (lvf : Nat → Bool) (a b : List Nat) : ded lvf (a ++ b) = ded lvf a + ded lvf b := by
  unfold ded
  rw [List.filter_append, List.length_append]
theorem ded_filter (lvf : Nat → Bool) (l : List Nat) : ded lvf (l.filter lvf) = 0 := by
  unfold ded
  rw [List.length_eq_zero_iff, List.filter_eq_nil_iff]
  intro i hi
  have := (List.mem_filter.1 hi).2
  simp [this]
theorem good_filter (lvf : Nat → Bool) (l : List Nat) : Good lvf (l.filter lvf) := by
  cases h : l.filter lvf with
  | nil => exact Or.inl rfl
  | cons i r =>
    refine Or.inr ⟨i, r, rfl, ?_⟩
    have : i ∈ l.filter lvf := by rw [h]; exact List.mem_cons_self
    exact (List.mem_filter.1 this).2
theorem good_zero {lvf : Nat → Bool} {l : List Nat} (h : ded lvf l = 0) : Good lvf l := by
  cases l with
  | nil => exact Or.inl rfl
  | cons i r =>
    refine Or.inr ⟨i, r, rfl, ?_⟩
    cases hl : lvf i with
    | true => rfl
    | false => simp [ded, hl] at h

/-- The plain law of dropEnded. -/
theorem drop_law {lvf : Nat → Bool} {its : List Nat} {c e' e : Nat} (hc : c ≤ its.length) (he : e' + c = e) (hd : ∀ i, i ∈ its.take c → lvf i = false) (hx : e' = 0 ∨ its.drop c = [] ∨ ∃ i r, its.drop c = i :: r ∧ lvf i = true)
    (hcount : e = ded lvf its ∨ (its = [] ∧ e = 1)) :
    (its.drop c).filter lvf = its.filter lvf ∧ (e' = ded lvf (its.drop c) ∧ Good lvf (its.drop c) ∨ (its.drop c).length = 0 ∧ e' = 1) := by
  have hsplit : its.take c ++ its.drop c = its := List.take_append_drop c its
  have h1 : (its.drop c).filter lvf = its.filter lvf := by
    have h := congrArg (List.filter lvf) hsplit
    rw [List.filter_append, filter_dead hd, List.nil_append] at h
    exact h
  have h2 : ded lvf its = c + ded lvf (its.drop c) := by
    have h := congrArg (ded lvf) hsplit
    rw [ded_append, ded_dead hd, List.length_take, Nat.min_eq_left hc] at h
    exact h.symm
  refine ⟨h1, ?_⟩
  rcases hcount with h | ⟨h, h'⟩
  · have h3 : e' = ded lvf (its.drop c) := by omega
    refine Or.inl ⟨h3, ?_⟩
    rcases hx with hx | hx | hx
    · exact good_zero (by omega)
    · exact Or.inl hx
    · exact Or.inr hx
  · subst h
    have : c = 0 := by simpa using hc
    refine Or.inr ⟨by simp, by omega⟩

theorem Ord.setE {w : World} {A g head cap : Nat} {its : List Nat} {sb : Nat → Nat} {e : Nat} (h : Ord w A g head cap its sb e) (e' : Nat) : Ord (w.setCell ⟨A, 3, none⟩ (.int .i64 (e' : Nat))) A g head cap its sb e' := by
  have hgA := h.gA
  refine h.writes (Fr.refl _ _) h.sp head e' its h.le h.it (Fr.set _ (by simp) _) ?_ ?_ ?_ ?_ (fun o => by simp)
  · rw [cset_ne _ _ _ _ _ _ (by omega)]; exact h.r0
  · rw [cset_ne _ _ _ _ _ _ (by omega)]; exact h.r1
  · rw [cset_ne _ _ _ _ _ _ (by omega)]; exact h.r2
  · exact World.cell?_setCell_same _ _ _ h.r3

/-- What remove leaves. -/
def Removed (A g cap : Nat) (its : List Nat) (sb : Nat → Nat) (lvf : Nat → Bool) (w w' : World) : Prop :=
  ∃ head' its', Ord w' A g head' cap its' sb (ded lvf its') ∧ its'.filter lvf = its.filter lvf ∧ (∀ i, i ∈ its' → i ∈ its) ∧ Good lvf its' ∧ Fr [A, g] w w'

set_option maxHeartbeats 1600000 in
theorem remove_any (A g head cap e n : Nat) (its : List Nat) (sb : Nat → Nat) (lvf : Nat → Bool) (w : World) (hO : Ord w A g head cap its sb e) (hS : Sts w g A sb lvf n) (hits : ∀ i, i ∈ its → i < n) (he : e + 1 = ded lvf its ∨ (its = [] ∧ e + 1 = 1)) (he5 : e ≤ 4000) :
    Calls Yba.prog 8 #[.pointer (some ⟨A, 0, none⟩)] w fun r w' => r = .returned (.tuple #[]) ∧ Removed A g cap its sb lvf w w' := by
  have g3 := hO.r3
  have z3 := hO.f3
  have hO1 := hO.setE (e + 1)
  have hgA := hO.gA
  have f1 : Fr [A] w (w.setCell ⟨A, 3, none⟩ (.int .i64 ((e + 1 : Nat) : Int))) := Fr.set _ (by simp) _
  have hS1 := hS.keep f1 (by intro b hb; simp only [List.mem_cons, List.not_mem_nil, or_false] at hb; omega)
  have hdr := drop_any A g head cap (e + 1) n its sb lvf _ hO1 hS1 hits (by omega)
  rw [show ((e + 1 : Nat) : Int) = (e : Int) + 1 by omega] at hdr
  have HS1 := (show Hid (Sts (w.setCell ⟨A, 3, none⟩ (.int .i64 ((e : Int) + 1))) g A sb lvf n) from hS1)
  have HF1 := (show Hid (Fr [A] w (w.setCell ⟨A, 3, none⟩ (.int .i64 ((e : Int) + 1)))) from f1)
  have HT := (show Hid (∀ i, i ∈ its → i < n) from hits)
  have HE := (show Hid (e + 1 = ded lvf its ∨ (its = [] ∧ e + 1 = 1)) from he)
  clear hO hS hits he hO1 hS1 f1
  go_enter Yba.func8, Yba.ntmps8
  go_wp2_with fail
  refine hdr.mono ?_
  rintro x w2 ⟨rfl, c, hd', e', hc, hec, hded, hx, hO2, f2⟩
  obtain ⟨hfil, hlaw⟩ := drop_law hc hec hded hx HE.out
  obtain ⟨its', hits'⟩ : ∃ its', its' = its.drop c := ⟨_, rfl⟩
  rw [← hits'] at hO2 hfil hlaw
  have hsub : ∀ i, i ∈ its' → i ∈ its := fun i hi => List.mem_of_mem_drop (hits' ▸ hi)
  have hf02 : Fr [A, g] w w2 := (HF1.out.wide (by simp)).trans f2
  have hS2 : Sts w2 g A sb lvf n := HS1.out.keep f2 (by intro b hb; simp only [List.mem_cons, List.not_mem_nil, or_false] at hb; omega)
  have HO2 := (show Hid (Ord w2 A g hd' cap its' sb e') from hO2)
  have HS2 := (show Hid (Sts w2 g A sb lvf n) from hS2)
  have HF2 := (show Hid (Fr [A, g] w w2) from hf02)
  have HLW := (show Hid (its'.filter lvf = its.filter lvf ∧ (e' = ded lvf its' ∧ Good lvf its' ∨ its'.length = 0 ∧ e' = 1)) from ⟨hfil, hlaw⟩)
  have HSB := (show Hid (∀ i, i ∈ its' → i ∈ its) from hsub)
  have k0 := hO2.r0
  have k1 := hO2.r1
  have k2 := hO2.r2
  have k3 := hO2.r3
  have hcap := hO2.le
  have hcm := hO2.capm
  have he2 : e' ≤ 5000 := by omega
  obtain ⟨m, hm⟩ : ∃ m, m = its'.length := ⟨_, rfl⟩
  obtain ⟨L, hL⟩ : ∃ L, L = hd' + m := ⟨_, rfl⟩
  rw [← hm, ← hL] at k0 hcap
  have hsb : (L : Int) - (hd' : Int) = (m : Int) := by omega
  have hm1 : m ≤ 3000 := by omega
  have HM := (show Hid (m = its'.length) from hm)
  clear hdr hO2 hS2 hf02 hfil hlaw hsub hits' hm hL hc hec hded hx f2 g3 z3
  go_upto_region 2 with fail
  by_cases hb : (m : Int) / 2 < (e' : Int)
  · go_cut [32] from 11 to 32 (fun t wx => t = .bool true ∧ ∃ nq, wx = w2.drewN nq)
    case first =>
      go_quiet (fail)
      go_wp2
      go_meet
      exact ⟨rfl, _, rfl⟩
    case rest =>
    obtain ⟨rfl, nq, rfl⟩ := hcut
    have fd : Fr [] w2 (w2.drewN nq) := Fr.drewN _ _
    have hrb := rebuild_any A g hd' cap e' n its' sb lvf (w2.drewN nq) (HO2.out.keep fd (by simp) (by simp)) (HS2.out.keep fd (by simp)) (fun i hi => HT.out i (HSB.out i hi))
    go_wp2_with fail
    refine hrb.mono ?_
    rintro x w3 ⟨rfl, hO3, f3⟩
    go_wp2
    go_end0
    refine ⟨rfl, 0, its'.filter lvf, ?_, ?_, ?_, good_filter _ _, ?_⟩
    · rw [ded_filter]; exact hO3
    · rw [List.filter_filter]
      simp only [Bool.and_self]
      exact HLW.out.1
    · intro i hi; exact HSB.out i (List.mem_filter.1 hi).1
    · exact HF2.out.trans ((fd.wide (by simp)).trans f3)
  · go_quiet (fail)
    go_wp2
    go_end0
    obtain ⟨hfil, hlaw⟩ := HLW.out
    have hM := HM.out
    rcases hlaw with ⟨h1, h2⟩ | ⟨h1, h2⟩
    · refine ⟨rfl, hd', its', ?_, hfil, HSB.out, h2, HF2.out.trans (Fr.drewN _ _)⟩
      rw [← h1]
      exact HO2.out.keep (bs := []) (Fr.drewN _ _) (by simp) (by simp)
    · omega

end Go.Proofs.Ybulkaixu.Cnt
