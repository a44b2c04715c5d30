/-
  (*waitOrder).dropEnded (9).
-/
import Derived.Test.YbulkaixuOrd
namespace Go.Proofs.Ybulkaixu.Cnt
open Go.RowKit
set_option linter.unusedVariables false
set_option linter.unusedSimpArgs false
set_option maxRecDepth 100000

/-- copy, as a step of a region that draws. -/
theorem step_copy5 {ops : Array Oper} {o : Oper} {a : Act} {w : World} {K : Act → World → Prop} {Q : Exit → Act → World → Prop} {E : Prop}
    (hg : o.guard = none) (s x : Operand) (hop : o.op = Op.call { callee := Callee.builtin Builtin.copy, args := #[s, x], argTypes := #[27, 27] })
    (v1 v2 : Value) (hs : a.eval s = v1) (hx : a.eval x = v2) (r : Value) (w' : World) (hrun : ∀ ty, (Builtin.copy_ #[27, 27] ty #[v1, v2]).run Yba.prog w = .ok r w') (hK : K (a.put o.dst r) w') :
    if Region.wanted o (yielded ops a.tmps) = true then Oper.wp Yba.prog o a w K Q else E := by
  have hw : Region.wanted o (yielded ops a.tmps) = true := by simp [Region.wanted, hg]
  rw [if_pos hw]
  unfold Oper.wp
  simp [execOp, hop, resolve, invoke, builtin, hs, hx, hrun, Result.andThen]
  exact hK

/-- clear, in a plain region. -/
theorem wpList_clear5 {ops : Array Oper} {rest : List Oper} {o : Oper} {a : Act} {w : World} {Q : Exit → Act → World → Prop}
    (hg : o.guard = none) (s : Operand) (hop : o.op = Op.call { callee := Callee.builtin Builtin.clear, args := #[s], argTypes := #[27] })
    (v : Value) (hs : a.eval s = v) (w' : World) (hrun : ∀ ty, (Builtin.clear_ #[27] ty #[v]).run Yba.prog w = .ok (.tuple #[]) w') (hK : wpList Yba.prog ops Q rest (a.put o.dst (.tuple #[])) w') :
    wpList Yba.prog ops Q (o :: rest) a w := by
  refine wpList_plain hg fun K hK' => ?_
  unfold Oper.wp
  simp [execOp, hop, resolve, invoke, builtin, hs, hrun, Result.andThen]
  exact hK' _ _ hK

/-- What dropEnded has done when k waits at most are still to be looked at. -/
def DI (A g head cap e : Nat) (its : List Nat) (sb : Nat → Nat) (lvf : Nat → Bool) (w : World) (k : Nat) (wr : World) : Prop :=
  ∃ c hd its' e', k = its'.length ∧ hd = head + c ∧ its' = its.drop c ∧ e' + c = e ∧ c ≤ its.length ∧ (∀ i, i ∈ its.take c → lvf i = false) ∧ Ord wr A g hd cap its' sb e' ∧ Fr [A, g] w wr

theorem drew_set (w : World) (a : Addr) (v : Value) : (w.drew).setCell a v = (w.setCell a v).drew := rfl

/-- .. when its loop is left. -/
def DX (A g head cap e : Nat) (its : List Nat) (sb : Nat → Nat) (lvf : Nat → Bool) (w : World) (wr : World) : Prop :=
  ∃ c hd its' e', hd = head + c ∧ its' = its.drop c ∧ e' + c = e ∧ c ≤ its.length ∧ (∀ i, i ∈ its.take c → lvf i = false) ∧ (e' = 0 ∨ its' = [] ∨ ∃ i r, its' = i :: r ∧ lvf i = true) ∧ Ord wr A g hd cap its' sb e' ∧ Fr [A, g] w wr

theorem drop_cons {its : List Nat} {c i : Nat} {r : List Nat} (h : i :: r = its.drop c) (hc : c ≤ its.length) : r = its.drop (c + 1) ∧ its.take (c + 1) = its.take c ++ [i] ∧ c < its.length := by
  have hl : c < its.length := by
    have := congrArg List.length h
    simp at this
    omega
  have h1 : its.drop c = its[c] :: its.drop (c + 1) := List.drop_eq_getElem_cons hl
  rw [h1] at h
  obtain ⟨h2, h3⟩ := List.cons.inj h
  refine ⟨h3, ?_, hl⟩
  rw [List.take_succ_eq_append_getElem hl, h2]

/-- What dropEnded leaves. -/
def Dropped (A g cap e : Nat) (its : List Nat) (sb : Nat → Nat) (lvf : Nat → Bool) (w w' : World) : Prop :=
  ∃ c head' e', c ≤ its.length ∧ e' + c = e ∧ (∀ i, i ∈ its.take c → lvf i = false) ∧ (e' = 0 ∨ its.drop c = [] ∨ ∃ i r, its.drop c = i :: r ∧ lvf i = true) ∧ Ord w' A g head' cap (its.drop c) sb e' ∧ Fr [A, g] w w'

set_option maxHeartbeats 1600000 in
theorem drop_any (A g head cap e n : Nat) (its : List Nat) (sb : Nat → Nat) (lvf : Nat → Bool) (w : World) (hO : Ord w A g head cap its sb e) (hS : Sts w g A sb lvf n) (hits : ∀ i, i ∈ its → i < n) (he5 : e ≤ 5000) :
    Calls Yba.prog 9 #[.pointer (some ⟨A, 0, none⟩)] w fun r w' => r = .returned (.tuple #[]) ∧ Dropped A g cap e its sb lvf w w' := by
  have HO := (show Hid (Ord w A g head cap its sb e) from hO)
  have HS := (show Hid (Sts w g A sb lvf n) from hS)
  have HT := (show Hid (∀ i, i ∈ its → i < n) from hits)
  clear hO hS hits
  go_enter Yba.func9, Yba.ntmps9
  go_upto_block 0 with fail
  go_cut [] from 3 to 56 (fun wx => DX A g head cap e its sb lvf w wx)
  case first =>
    go_wp2_with fail
    go_loopg [] (its.length) (fun k wr => DI A g head cap e its sb lvf w k wr)
    case atStart =>
      exact ⟨0, head, its, e, rfl, rfl, rfl, rfl, by omega, by simp, HO.out, Fr.refl _ _⟩
    case round =>
      obtain ⟨c, hd, its', e', hk, hhd, hit, he, hc, hded, hOr, hf⟩ := hrel
      have g0 := hOr.r0
      have g1 := hOr.r1
      have g3 := hOr.r3
      have HOr := (show Hid (Ord wr A g hd cap its' sb e') from hOr)
      have HF := (show Hid (Fr [A, g] w wr) from hf)
      have HX := (show Hid (hd = head + c ∧ its' = its.drop c ∧ e' + c = e ∧ c ≤ its.length ∧ (∀ i, i ∈ its.take c → lvf i = false)) from ⟨hhd, hit, he, hc, hded⟩)
      have hcap := hOr.le
      have he5' : e' ≤ 5000 := by omega
      have hcm := hOr.capm
      clear hOr hf hhd hit he hc hded
      have hfin : ∀ nq, (e' = 0 ∨ its' = [] ∨ ∃ i r, its' = i :: r ∧ lvf i = true) → DX A g head cap e its sb lvf w (wr.drewN nq) := fun nq h =>
        ⟨c, hd, its', e', HX.out.1, HX.out.2.1, HX.out.2.2.1, HX.out.2.2.2.1, HX.out.2.2.2.2, h, HOr.out.keep (bs := []) (Fr.drewN _ _) (by simp) (by simp), HF.out.trans (Fr.drewN _ _)⟩
      have HFI := (show Hid (∀ nq, (e' = 0 ∨ its' = [] ∨ ∃ i r, its' = i :: r ∧ lvf i = true) → DX A g head cap e its sb lvf w (wr.drewN nq)) from hfin)
      clear hfin
      by_cases he0 : e' = 0
      · subst he0
        go_upto_region 0 with fail
        go_quiet (fail)
        go_wp2
        go_meet
        exact HFI.out _ (by simp)
      · have hpos : (0 : Int) < (e' : Int) := by omega
        have hpos' : 0 < e' := by omega
        cases its' with
        | nil =>
          simp only [List.length_nil, Nat.add_zero] at g0 hcap
          go_upto_region 0 with fail
          go_quiet (fail)
          go_wp2
          go_meet
          exact HFI.out _ (by simp)
        | cons i r =>
          obtain ⟨L, hL⟩ : ∃ L, L = hd + (i :: r).length := ⟨_, rfl⟩
          rw [← hL] at g0 hcap
          have hlt : (hd : Int) < (L : Int) := by simp at hL; omega
          have hlt' : hd < L := by simp at hL; omega
          have HL := (show Hid (L = hd + (i :: r).length) from hL)
          have c3 : wr.cell? ⟨g, hd * 5 + 3, none⟩ = some (.int .u64 ((i + 1 : Nat) : Int)) := HOr.out.it 0 i rfl 3 (by omega)
          have c4 : wr.cell? ⟨g, hd * 5 + 4, none⟩ = some (.pointer (some ⟨sb i, 0, none⟩)) := HOr.out.it 0 i rfl 4 (by omega)
          have hin : i ∈ its := by
            have h := HX.out.2.1
            exact List.mem_of_mem_drop (h ▸ List.mem_cons_self)
          have hst : Sts wr g A sb lvf n := HS.out.keep HF.out (by intro b hb; simp only [List.mem_cons, List.not_mem_nil, or_false] at hb; omega)
          have hsta := hst.sta (HT.out i hin)
          have hlv : ∀ nq, Calls Yba.prog 7 #[.pointer (some ⟨g, hd * 5, none⟩)] (wr.drewN nq) fun e w' => e = .returned (.bool (lvf i)) ∧ ∃ n, w' = (wr.drewN nq).drewN n := fun nq => live_any g (hd * 5) (sb i) _ (lvf i) (wr.drewN nq) c3 c4 hsta
          have HLV := (show Hid (∀ nq, Calls Yba.prog 7 #[.pointer (some ⟨g, hd * 5, none⟩)] (wr.drewN nq) fun e w' => e = .returned (.bool (lvf i)) ∧ ∃ n, w' = (wr.drewN nq).drewN n) from hlv)
          clear hL hst hsta hlv
          by_cases hl : lvf i = true
          · rw [hl] at HLV
            go_upto_region 0 with fail
            go_region_held3 (fun w' => w'.cell? ⟨A, 0, none⟩ = some (.slice (some ⟨g, 0, none⟩) L cap) ∧ w'.cell? ⟨A, 1, none⟩ = some (.int .i64 (hd : Nat)) ∧ w'.cell? ⟨A, 3, none⟩ = some (.int .i64 (e' : Nat))) (refine ⟨?_, ?_, ?_⟩ <;> first | assumption | exact g0 | exact g1 | exact g3)
              (first
                | (go_at_call 7; refine (HLV.out 1).mono ?_; rintro e w' ⟨rfl, nq, rfl⟩))
            go_wp2
            go_meet
            exact HFI.out (1 + nq) (Or.inr (Or.inr ⟨i, r, rfl, hl⟩))
          · have hlf : lvf i = false := by simpa using hl
            rw [hlf] at HLV
            go_upto_region 0 with fail
            go_cut [32] from 3 to 32 (fun t wx => t = .bool true ∧ ∃ nq, wx = wr.drewN nq)
            case first =>
              go_region_held3 (fun w' => w'.cell? ⟨A, 0, none⟩ = some (.slice (some ⟨g, 0, none⟩) L cap) ∧ w'.cell? ⟨A, 1, none⟩ = some (.int .i64 (hd : Nat)) ∧ w'.cell? ⟨A, 3, none⟩ = some (.int .i64 (e' : Nat))) (refine ⟨?_, ?_, ?_⟩ <;> first | assumption | exact g0 | exact g1 | exact g3)
                (first
                  | (go_at_call 7; refine (HLV.out 1).mono ?_; rintro e w' ⟨rfl, nq, rfl⟩))
              go_wp2
              go_meet
              exact ⟨rfl, 1 + nq, rfl⟩
            case rest =>
            obtain ⟨rfl, nq, rfl⟩ := hcut
            obtain ⟨w1, hw1⟩ : ∃ w1, w1 = wr.drewN nq := ⟨_, rfl⟩
            rw [← hw1]
            have f1 : Fr [] wr w1 := by rw [hw1]; exact Fr.drewN _ _
            have hO1 : Ord w1 A g hd cap (i :: r) sb ((e' - 1) + 1) := by
              have h := HOr.out.keep f1 (by simp) (by simp)
              rwa [Nat.sub_add_cancel hpos']
            have g0 := f1.cell (by simp) g0
            have g1 := f1.cell (by simp) g1
            have g3 := f1.cell (by simp) g3
            have z1 := hO1.f1
            have z3 := hO1.f3
            have k0 := (hO1.sp (hd * 5) (by omega))
            have k1 := (hO1.sp (hd * 5 + 1) (by omega))
            have k2 := (hO1.sp (hd * 5 + 2) (by omega))
            have k3 := (hO1.sp (hd * 5 + 3) (by omega))
            have k4 := (hO1.sp (hd * 5 + 4) (by omega))
            obtain ⟨u0, q0⟩ := Option.isSome_iff_exists.1 k0.1
            obtain ⟨u1, q1⟩ := Option.isSome_iff_exists.1 k1.1
            obtain ⟨u2, q2⟩ := Option.isSome_iff_exists.1 k2.1
            obtain ⟨u3, q3⟩ := Option.isSome_iff_exists.1 k3.1
            obtain ⟨u4, q4⟩ := Option.isSome_iff_exists.1 k4.1
            have k0 := k0.2
            have k1 := k1.2
            have k2 := k2.2
            have k3 := k3.2
            have k4 := k4.2
            have hgA : g < A := hO1.gA
            have hgA' : g ≠ A := by omega
            have hAg' : A ≠ g := by omega
            have HO1 := (show Hid (Ord w1 A g hd cap (i :: r) sb ((e' - 1) + 1)) from hO1)
            have HF1 := (show Hid (Fr [] wr w1) from f1)
            clear hO1 f1 hw1 HLV c3 c4
            go_upto_region 1 with fail
            go_cut [] from 33 to 42 (fun wx => wx = (w1.setCells g (hd * 5) [.int .u64 0, .int .i64 0, .pointer none, .int .u64 0, .pointer none]).drew)
            case first =>
              go_region
              all_goals (go_wp2; go_meet; exact rfl)
            case rest =>
            obtain rfl := hcut
            obtain ⟨w2, hw2⟩ : ∃ w2, w2 = (w1.setCells g (hd * 5) [.int .u64 0, .int .i64 0, .pointer none, .int .u64 0, .pointer none]).drew := ⟨_, rfl⟩
            rw [← hw2]
            have f12 : Fr [g] w1 w2 := by rw [hw2]; exact (Fr.grown (grown_setCells g _ _ w1) (by simp)).drew
            have g1' := f12.cell (b := A) (by simp; omega) g1
            have g3' := f12.cell (b := A) (by simp; omega) g3
            have z1' := (f12.frozen (b := A) (o := 1) (by simp; omega) (block_lt_of_cell g1)).trans z1
            have z3' := (f12.frozen (b := A) (o := 3) (by simp; omega) (block_lt_of_cell g1)).trans z3
            have HW2 := (show Hid (w2 = (w1.setCells g (hd * 5) [.int .u64 0, .int .i64 0, .pointer none, .int .u64 0, .pointer none]).drew) from hw2)
            have HF2 := (show Hid (Fr [g] w1 w2) from f12)
            have HGK := (show Hid (gk = (i :: r).length) from hk)
            clear hw2 f12 g0 g1 g3 z1 z3 k0 k1 k2 k3 k4 q0 q1 q2 q3 q4 hk
            go_wp2
            go_roundg (r.length)
            case measure => have := HGK.out; simp at this; omega
            case rel =>
              obtain ⟨hhd, hit, he, hc, hded⟩ := HX.out
              obtain ⟨d1, d2, d3⟩ := drop_cons hit hc
              refine ⟨c + 1, hd + 1, r, e' - 1, rfl, by omega, d1, by omega, by omega, ?_, ?_, ?_⟩
              · intro x hx
                rw [d2] at hx
                rcases List.mem_append.1 hx with h | h
                · exact hded x h
                · rw [List.mem_singleton.1 h]; exact hlf
              · have h := (HO1.out.next [.int .u64 0, .int .i64 0, .pointer none, .int .u64 0, .pointer none] rfl).keep (bs := []) ((Fr.refl _ _).drew) (by simp) (by simp)
                rw [show (((e' - 1 : Nat)) : Int) = (e' : Int) - 1 by omega, show ((hd + 1 : Nat) : Int) = (hd : Int) + 1 by omega] at h
                rw [HW2.out, drew_set, drew_set]
                exact h
              · exact (HF.out.trans (HF1.out.wide (by simp))).trans ((HF2.out.wide (by simp)).trans ((Fr.set _ (by simp) _).trans (Fr.set _ (by simp) _)))
  case rest =>
  obtain ⟨c, hd, its', e', hhd, hit, he, hc, hded, hend, hOr, hf⟩ := hcut
  obtain ⟨w1, hw1⟩ : ∃ w1, w1 = wc := ⟨_, rfl⟩
  rw [← hw1] at hOr hf ⊢
  clear hw1
  have g0 := hOr.r0
  have g1 := hOr.r1
  have g2 := hOr.r2
  have g3 := hOr.r3
  have hcm := hOr.capm
  have hcap := hOr.le
  obtain ⟨L, hL⟩ : ∃ L, L = hd + its'.length := ⟨_, rfl⟩
  rw [← hL] at g0 hcap
  have he5' : e' ≤ 5000 := by omega
  have HOr := (show Hid (Ord w1 A g hd cap its' sb e') from hOr)
  have HF := (show Hid (Fr [A, g] w w1) from hf)
  have HL := (show Hid (L = hd + its'.length) from hL)
  have HX := (show Hid (its' = its.drop c ∧ e' + c = e ∧ c ≤ its.length ∧ (∀ i, i ∈ its.take c → lvf i = false) ∧ (e' = 0 ∨ its' = [] ∨ ∃ i r, its' = i :: r ∧ lvf i = true)) from ⟨hit, he, hc, hded, hend⟩)
  clear hOr hf hit he hc hded hend hhd hL
  go_upto_block 2 with fail
  go_cut [] from 57 to 90 (fun wx => w1 = wx)
  case first =>
    go_wp2_with fail
    refine wp_loop_rounds 1 ?_
    rw [rounds_succ]
    by_cases he0 : e' = 0
    · subst he0
      go_wp2
      go_meet
      exact rfl
    · have hpos : (0 : Int) < (e' : Int) := by omega
      have hpos' : 0 < e' := by omega
      go_wp2
      go_meet
      exact rfl
  case rest =>
  obtain rfl := hcut
  have hfin : ∀ head' w', Ord w' A g head' cap its' sb e' → Fr [A, g] w1 w' → Dropped A g cap e its sb lvf w w' := by
    intro head' w' hO' hf'
    obtain ⟨hit, he, hc, hded, hend⟩ := HX.out
    refine ⟨c, head', e', hc, he, hded, ?_, ?_, HF.out.trans hf'⟩
    · rw [← hit]; exact hend
    · rw [← hit]; exact hO'
  have HFI := (show Hid (∀ head' w', Ord w' A g head' cap its' sb e' → Fr [A, g] w1 w' → Dropped A g cap e its sb lvf w w') from hfin)
  clear hfin
  have hdv : Int.tdiv (L : Int) 2 = ((L / 2 : Nat) : Int) := (Int.ofNat_tdiv L 2).symm
  by_cases h0 : hd = 0
  · subst h0
    go_upto_region 7 with fail
    go_quiet (fail)
    go_wp2
    go_end0
    exact ⟨rfl, HFI.out 0 _ (HOr.out.keep (bs := []) (Fr.drewN _ _) (by simp) (by simp)) (Fr.drewN _ _)⟩
  · have hp : (0 : Int) < (hd : Int) := by omega
    have hp' : 0 < hd := by omega
    by_cases h2 : L / 2 ≤ hd
    · have h2' : ((L / 2 : Nat) : Int) ≤ (hd : Int) := by omega
      have h2i : (L : Int) / 2 ≤ (hd : Int) := by omega
      go_upto_region 7 with fail
      go_cut [108] from 91 to 108 (fun t wx => t = .bool true ∧ ∃ nq, wx = w1.drewN nq)
      case first =>
        go_quiet (fail)
        go_wp2
        go_meet
        exact ⟨rfl, _, rfl⟩
      case rest =>
      obtain ⟨rfl, nq, rfl⟩ := hcut
      obtain ⟨w2, hw2⟩ : ∃ w2, w2 = w1.drewN nq := ⟨_, rfl⟩
      rw [← hw2]
      have f12 : Fr [] w1 w2 := by rw [hw2]; exact Fr.drewN _ _
      have hO2 := HOr.out.keep f12 (by simp) (by simp)
      have hO2d : Ord w2.drew A g hd cap its' sb e' := hO2.keep (bs := []) ((Fr.refl _ _).drew) (by simp) (by simp)
      have g0 := f12.cell (by simp) g0
      have g1 := f12.cell (by simp) g1
      have HF2 := (show Hid (Fr [] w1 w2) from f12)
      have HO2 := (show Hid (Ord w2.drew A g hd cap its' sb e') from hO2d)
      obtain ⟨m, hm⟩ : ∃ m, m = its'.length := ⟨_, rfl⟩
      have HM := (show Hid (m = its'.length) from hm)
      have hLm : L = hd + m := by rw [HL.out, hm]
      have hcl := cellsOf_len sb its'
      obtain ⟨w3, hw3⟩ : ∃ w3, w3 = (w2.drew).setCells g 0 (cellsOf sb its') := ⟨_, rfl⟩
      have hcpy : ∀ (a : Addr) (sc : Nat), (m = 0 ∨ a = ⟨g, hd * 5, none⟩) → ∀ ty, (Builtin.copy_ #[27, 27] ty #[.slice (some ⟨g, 0, none⟩) L cap, .slice (some a) m sc]).run Yba.prog w2.drew = .ok (.int .i64 m) w3 := by
        intro a sc ha ty
        rw [hw3]
        refine run_copy5 w2.drew ty g 0 L cap a m sc (cellsOf sb its') m (by rw [hLm]; exact (Nat.min_eq_left (Nat.le_add_left _ _)).symm) (by rw [hcl, hm]) ?_ ?_ ?_ (cellsOf_one sb its')
        · intro j v hv
          rcases ha with h | h
          · have := (List.getElem?_eq_some_iff.1 hv).1
            omega
          · rw [h, Addr.add_lit]
            exact hO2d.cells j v hv
        · intro j hj
          rw [Nat.zero_add]
          exact (hO2d.sp j (by omega)).1
        · intro j hj
          rw [Nat.zero_add]
          exact (hO2d.sp j (by omega)).2
      have f23 : Fr [g] w2 w3 := by rw [hw3]; exact ((Fr.refl _ w2).drew).trans (Fr.grown (grown_setCells g _ _ _) (by simp))
      have hsp3 := sp_setCells hO2d.sp 0 (cellsOf sb its')
      rw [← hw3] at hsp3
      obtain ⟨zs, hzl, hclr⟩ := run_clear5 w3 0 g (m * 5) hd (cap - m) (fun j hj => (hsp3 (m * 5 + j) (by omega)).1) (fun j hj => (hsp3 (m * 5 + j) (by omega)).2)
      obtain ⟨w4, hw4⟩ : ∃ w4, w4 = w3.setCells g (m * 5) zs := ⟨_, rfl⟩
      rw [← hw4] at hclr
      have f34 : Fr [g] w3 w4 := by rw [hw4]; exact Fr.grown (grown_setCells g _ _ _) (by simp)
      have hgA := hO2.gA
      have g03 := f23.cell (b := A) (by simp; omega) g0
      have g04 := f34.cell (b := A) (by simp; omega) g03
      have g14 := f34.cell (b := A) (by simp; omega) (f23.cell (b := A) (by simp; omega) g1)
      have z0 := (f34.frozen (b := A) (o := 0) (by simp; omega) (block_lt_of_cell g03)).trans ((f23.frozen (b := A) (o := 0) (by simp; omega) (block_lt_of_cell g0)).trans hO2.f0)
      have z1 := (f34.frozen (b := A) (o := 1) (by simp; omega) (block_lt_of_cell g03)).trans ((f23.frozen (b := A) (o := 1) (by simp; omega) (block_lt_of_cell g0)).trans hO2.f1)
      have hmL : m ≤ L := by omega
      have hmL' : (m : Int) ≤ (L : Int) := by omega
      have hhL : hd ≤ L := by omega
      have hhL' : (hd : Int) ≤ (L : Int) := by omega
      have hmc : m < cap := by omega
      have hmc' : ¬ cap = m := by omega
      have hmc2 : m ≤ cap := by omega
      have hmc3 : (m : Int) ≤ (cap : Int) := by omega
      have e1 : L - hd = m := by omega
      have e2 : L - m = hd := by omega
      have HFN := (show Hid (Fr [g] w2 w3 ∧ Fr [g] w3 w4) from ⟨f23, f34⟩)
      have HWN := (show Hid (w3 = (w2.drew).setCells g 0 (cellsOf sb its') ∧ w4 = w3.setCells g (m * 5) zs) from ⟨hw3, hw4⟩)
      have HCP := (show Hid (∀ (a : Addr) (sc : Nat), (m = 0 ∨ a = ⟨g, hd * 5, none⟩) → ∀ ty, (Builtin.copy_ #[27, 27] ty #[.slice (some ⟨g, 0, none⟩) L cap, .slice (some a) m sc]).run Yba.prog w2.drew = .ok (.int .i64 m) w3) from hcpy)
      have HCL := (show Hid (∀ ty, (Builtin.clear_ #[27] ty #[.slice (some ⟨g, m * 5, none⟩) hd (cap - m)]).run Yba.prog w3 = .ok (.tuple #[]) w4) from hclr)
      clear hw2 f12 hO2 hO2d hm hcl hw3 hcpy f23 hsp3 hclr hw4 f34 hzl hLm
      go_upto_region 8 with fail
      go_cut [2] from 109 to 122 (fun t wx => t = .int .i64 m ∧ w3 = wx)
      case first =>
        by_cases hcp : cap = hd
        · have hm0 : m = 0 := by omega
          have hLc : L = cap := by omega
          have hcp' := HCP.out ⟨g, 0, none⟩ 0 (Or.inl hm0)
          clear HCP HCL HM HL HFI HWN
          subst hm0 hLc hcp
          go_region_law (refine step_copy5 rfl (.tmp 112) (.tmp 121) rfl _ _ rfl rfl _ _ hcp' ?_)
          all_goals (go_wp2; go_meet; exact ⟨rfl, rfl⟩)
        · have hcp' := HCP.out ⟨g, hd * 5, none⟩ (cap - hd) (Or.inr rfl)
          go_region_law (refine step_copy5 rfl (.tmp 112) (.tmp 121) rfl _ _ rfl rfl _ _ hcp' ?_)
          all_goals (go_wp2; go_meet; exact ⟨rfl, rfl⟩)
      case rest =>
      obtain ⟨rfl, rfl⟩ := hcut
      have hc0 := HCL.out 0
      clear HCL
      go_wp2
      go_end0
      refine ⟨rfl, HFI.out 0 _ ?_ ?_⟩
      · have h := HO2.out.compact zs
        rw [← HM.out, ← HWN.out.1, ← HWN.out.2] at h
        exact h
      · exact (HF2.out.wide (by simp)).trans ((HFN.out.1.wide (by simp)).trans ((HFN.out.2.wide (by simp)).trans ((Fr.set _ (by simp) _).trans (Fr.set _ (by simp) _))))
    · have h2' : ¬ ((L / 2 : Nat) : Int) ≤ (hd : Int) := by omega
      have h2'' : (hd : Int) < ((L / 2 : Nat) : Int) := by omega
      have h23 : hd < L / 2 := by omega
      go_upto_region 7 with fail
      go_quiet (fail)
      go_wp2
      go_end0
      exact ⟨rfl, HFI.out hd _ (HOr.out.keep (bs := []) (Fr.drewN _ _) (by simp) (by simp)) (Fr.drewN _ _)⟩

end Go.Proofs.Ybulkaixu.Cnt
