/-
  (*Replica).forget (22) over a row of lapses.
-/
import Derived.Test.YbulkaixgFrame
import Derived.Test.YbulkaixgRow
import Derived.Deep.LoopGhost
namespace Go.Proofs.Ybulkaixg.Lapse
open Go.RowKit Go.Maps Go.WideMaps Cmp Mp Marks
set_option linter.unusedVariables false
set_option linter.unusedSimpArgs false
set_option maxRecDepth 100000
attribute [local go_sem ↓] Go.wp_at_zero Go.wp_at_succ

/-- Cell q of lapse i: the key kf i, the ticket (i, 0, ""), the time at i. -/
def lapF (kf : Nat → ByteArray) (at_ : Nat → Int) : Nat → Nat → Value := fun i q =>
  match q with
  | 0 => .string (kf i)
  | 1 => .int .i64 i
  | 2 => .int .u64 0
  | 3 => .string ⟨#[]⟩
  | _ => .int .i64 (at_ i)

/-- The key of lapse i in 'released'. -/
def kk (kf : Nat → ByteArray) (i : Nat) : Lit := relK (kf i) i 0 ⟨#[]⟩

/-- What 'released' says of a key. -/
def Says (D : DataW Unit) (S : Lit → Prop) : Prop := ∀ l, (S l → D.atKey l (.lit (.bool false)) = .lit (.bool true)) ∧ (¬ S l → D.atKey l (.lit (.bool false)) = .lit (.bool false))

def own (R : Nat) (v : Value) : Nat := v.ownBlock.getD R

theorem wf_nat (i : Nat) (hi : i < 4000) : (Lit.int .i64 (i : Int)).wf = true := by
  have h1 : IntKind.i64.min = -9223372036854775808 := by decide
  have h2 : IntKind.i64.max = 9223372036854775807 := by decide
  simp [Lit.wf, h1, h2]
  omega

theorem kk_key (kf : Nat → ByteArray) (i : Nat) (hk : (kf i).size ≤ maxLen) (hi : i < 4000) : keyOf Yba.prog 37 (relV (kf i) i 0 ⟨#[]⟩) = some (kk kf i) :=
  key37 (kf i) i 0 ⟨#[]⟩ hk (wf_nat i hi) (by decide) (by decide)

theorem Says.del {D : DataW Unit} {S : Lit → Prop} (h : Says D S) (k : Lit) : Says (D.del k) (fun l => S l ∧ l ≠ k) := by
  intro l
  by_cases e : l = k
  · subst e
    rw [atKey_del_same]
    exact ⟨fun h => absurd rfl h.2, fun _ => rfl⟩
  · rw [atKey_del_other e]
    exact ⟨fun hs => (h l).1 hs.1, fun hs => (h l).2 (fun x => hs ⟨x, e⟩)⟩

theorem Says.put {D : DataW Unit} {S : Lit → Prop} (h : Says D S) (hD : IsMap D) (k : Lit) (hk : WideAt.IsKeyLit k) : Says (D.put k (.lit (.bool true))) (fun l => S l ∨ l = k) := by
  intro l
  by_cases e : l = k
  · subst e
    rw [atKey_put_same hD hk]
    exact ⟨fun _ => rfl, fun hs => absurd (Or.inr rfl) hs⟩
  · rw [atKey_put_other e]
    exact ⟨fun hs => (h l).1 (hs.resolve_right e), fun hs => (h l).2 (fun x => hs (Or.inl x))⟩

theorem step_delete {ops : Array Oper} {o : Oper} {a : Act} {w : World} {K : Act → World → Prop} {Q : Exit → Act → World → Prop} {E : Prop}
    (hg : o.guard = none) (s x : Operand) (hop : o.op = Op.call { callee := Callee.builtin Builtin.delete, args := #[s, x], argTypes := #[60, 37] })
    (v1 v2 : Value) (hs : a.eval s = v1) (hx : a.eval x = v2) (r : Value) (w' : World) (hrun : ∀ ty, (Builtin.delete_ #[60, 37] ty #[v1, v2]).run Yba.prog w = .ok r w') (hK : K (a.put o.dst r) w') :
    if Region.wanted o (yielded ops a.tmps) = true then Oper.wp Yba.prog o a w K Q else E := by
  have hw : Region.wanted o (yielded ops a.tmps) = true := by simp [Region.wanted, hg]
  rw [if_pos hw]
  unfold Oper.wp
  simp [execOp, hop, resolve, invoke, builtin, hs, hx, hrun, Result.andThen]
  exact hK

theorem Row.keepF {bs : List Nat} {B : Nat} {w w' : World} {v : Value} {n : Nat} {f : Nat → Nat → Value} (h : Row B w v n f) (hf : Fr bs w w') (hr : ∀ b, v.ownBlock = some b → b ∉ bs) : Row B w' v n f := by
  rcases h with h | ⟨g, o, cap, rfl, hB, hl, hc, hm, hcell, hsp⟩
  · exact Or.inl h
  · have hb : w'.heap[g]? = w.heap[g]? := hf.block g hl (hr g rfl)
    refine Or.inr ⟨g, o, cap, rfl, hB, Nat.lt_of_lt_of_le hl hf.size, hc, hm, fun i q hi hq => ?_, fun j hj => ⟨?_, ?_⟩⟩
    · rw [World.cell?_of_block (a := ⟨g, o + (5 * i + q), none⟩) hb]; exact hcell i q hi hq
    · rw [World.cell?_of_block (a := ⟨g, o + j, none⟩) hb]; exact (hsp j hj).1
    · rw [World.frozen?_of_block (a := ⟨g, o + j, none⟩) hb]; exact (hsp j hj).2

theorem setCells5 (w : World) (g o : Nat) (a b c d e : Value) : w.setCells g o [a, b, c, d, e] = ((((w.setCell ⟨g, o, none⟩ a).setCell ⟨g, o + 1, none⟩ b).setCell ⟨g, o + 2, none⟩ c).setCell ⟨g, o + 3, none⟩ d).setCell ⟨g, o + 4, none⟩ e := rfl

/-- What forget has done when at most k releases are left. -/
def FI (R K M L C nL : Nat) (m0 cnt now : Int) (B n : Nat) (v : Value) (kf : Nat → ByteArray) (at_ : Nat → Int) (S : Lit → Prop) (w : World) (k : Nat) (wr : World) : Prop :=
  ∃ d v' D', k + d = n ∧ (∀ i, i < d → at_ i < now) ∧ Rep wr R K M L C m0 cnt v' ∧
      Row B wr v' (n - d) (fun i => lapF kf at_ (i + d)) ∧ wr.ownsMap Yba.prog 37 (plainElem (H := Unit) Yba.prog 4) L nL D' ∧ Says D' (fun l => S l ∧ ∀ i, i < d → l ≠ kk kf i) ∧ Fr [R, L, own R v] w wr ∧ own R v' = own R v

theorem delete_run {w w' : World} {r : Value} {v1 v2 : Value} (h : (Builtin.delete_ #[60, 37] 0 #[v1, v2]).run Yba.prog w = .ok r w') (ty : TypeId) : (Builtin.delete_ #[60, 37] ty #[v1, v2]).run Yba.prog w = .ok r w' := h

set_option maxHeartbeats 800000 in
theorem forget_row (R K M L C nL : Nat) (m0 cnt now : Int) (B n : Nat) (v : Value) (kf : Nat → ByteArray) (at_ : Nat → Int) (S : Lit → Prop) (D : DataW Unit) (w : World) (hR : Rep w R K M L C m0 cnt v) (hrow : Row B w v n (lapF kf at_))
    (hRB : R < B) (hLB : L < B) (hRL : L < R) (hL : w.ownsMap Yba.prog 37 (plainElem (H := Unit) Yba.prog 4) L nL D) (hS : Says D S) (hkf : ∀ i, (kf i).size ≤ maxLen) (hn : n ≤ 1024) :
    Calls Yba.prog 22 #[.pointer (some ⟨R, 0, none⟩), .int .i64 now] w fun e w' => e = .returned (.tuple #[]) ∧ ∃ k, FI R K M L C nL m0 cnt now B n v kf at_ S w k w' ∧ (0 < k → ¬ at_ (n - k) < now) := by
  go_enter Yba.func22, Yba.ntmps22
  go_wp2_with fail
  go_loopg [] n (fun k wr => FI R K M L C nL m0 cnt now B n v kf at_ S w k wr)
  case atStart =>
    exact ⟨0, v, D, rfl, fun i hi => absurd hi (by omega), hR, hrow, hL, fun l => ⟨fun h => (hS l).1 h.1, fun h => (hS l).2 (fun x => h ⟨x, fun i hi => absurd hi (by omega)⟩)⟩, Fr.refl _ _, rfl⟩
  case round =>
    obtain ⟨d, v', D', hk, hat, hRr, hrw, hLr, hSr, hf, hov⟩ := hrel
    have g17 := hRr.c17
    have g16 := hRr.c16
    have lR : R < wr.heap.size := block_lt_of_cell g17
    by_cases hd : d < n
    · obtain ⟨g, o, cap, rfl, hBg, hgl, hcap, hmx, hcell, hsp⟩ : ∃ g o cap, v' = .slice (some ⟨g, o, none⟩) (n - d) cap ∧ B ≤ g ∧ g < wr.heap.size ∧ n - d ≤ cap ∧ cap ≤ maxLen ∧ (∀ i q, i < n - d → q < 5 → wr.cell? ⟨g, o + (5 * i + q), none⟩ = some (lapF kf at_ (i + d) q)) ∧
          ∀ j, j < cap * 5 → (wr.cell? ⟨g, o + j, none⟩).isSome = true ∧ wr.frozen? ⟨g, o + j, none⟩ = false := by
        rcases hrw with h | h
        · omega
        · exact h
      have c0 : wr.cell? ⟨g, o, none⟩ = some (.string (kf d)) := by simpa [lapF] using hcell 0 0 (by omega) (by omega)
      have c1 : wr.cell? ⟨g, o + 1, none⟩ = some (.int .i64 d) := by simpa [lapF] using hcell 0 1 (by omega) (by omega)
      have c2 : wr.cell? ⟨g, o + 2, none⟩ = some (.int .u64 0) := by simpa [lapF] using hcell 0 2 (by omega) (by omega)
      have c3 : wr.cell? ⟨g, o + 3, none⟩ = some (.string ⟨#[]⟩) := by simpa [lapF] using hcell 0 3 (by omega) (by omega)
      have c4 : wr.cell? ⟨g, o + 4, none⟩ = some (.int .i64 (at_ d)) := by simpa [lapF] using hcell 0 4 (by omega) (by omega)
      have z0 : wr.frozen? ⟨g, o, none⟩ = false := by simpa using (hsp 0 (by omega)).2
      have z1 : wr.frozen? ⟨g, o + 1, none⟩ = false := (hsp 1 (by omega)).2
      have z2 : wr.frozen? ⟨g, o + 2, none⟩ = false := (hsp 2 (by omega)).2
      have z3 : wr.frozen? ⟨g, o + 3, none⟩ = false := (hsp 3 (by omega)).2
      have z4 : wr.frozen? ⟨g, o + 4, none⟩ = false := (hsp 4 (by omega)).2
      have hlen : (0 : Int) < ((n - d : Nat) : Int) := by omega
      have hlen' : 0 < n - d := by omega
      have HA := (show Hid _ from hat)
      have HS := (show Hid _ from hSr)
      have HR := (show Hid _ from hrw)
      have HF := (show Hid _ from hkf)
      have hok := kk_key kf d (hkf d) (by omega)
      clear hat hSr hS hkf hcell hsp hrw hrow hL hR
      by_cases hx : at_ d < now
      · obtain ⟨w1, hdel, hL1, hturn⟩ := (hLr.drew).drop law37 Yba.underlying60 hok 0
        have hdl := delete_run hdel
        have HK := (show Hid _ from hk)
        have HO := (show Hid _ from hov)
        have f1 : Fr [L] wr w1 := (Fr.drewN wr 1).trans (Fr.grown hturn.grown (by simp))
        clear hdel hk hov hok hturn
        go_upto_region 1 with fail
        go_cut [] from 21 to 31 (fun wx => w1 = wx)
        case first =>
          go_region_law (refine step_delete rfl (.tmp 24) (.tmp 31) rfl _ _ rfl rfl _ _ hdl ?_)
          all_goals (go_wp2; go_meet; exact rfl)
        case rest =>
        obtain rfl := hcut
        clear hdl hLr
        have hR1 := hRr.keep f1 (by simp; omega)
        have hrw1 := Row.keepF (f := fun i => lapF kf at_ (i + d)) HR.out f1 (by intro b hb; cases hb; simp; omega)
        have g17 := hR1.c17
        have gf17 := hR1.f17
        have lR : R < w1.heap.size := block_lt_of_cell g17
        have e0 : w1.cell? ⟨g, o, none⟩ = some (.string (kf d)) := f1.cell (by simp; omega) c0
        have e1 : w1.cell? ⟨g, o + 1, none⟩ = some (.int .i64 d) := f1.cell (by simp; omega) c1
        have e2 : w1.cell? ⟨g, o + 2, none⟩ = some (.int .u64 0) := f1.cell (by simp; omega) c2
        have e3 : w1.cell? ⟨g, o + 3, none⟩ = some (.string ⟨#[]⟩) := f1.cell (by simp; omega) c3
        have e4 : w1.cell? ⟨g, o + 4, none⟩ = some (.int .i64 (at_ d)) := f1.cell (by simp; omega) c4
        have y0 := (f1.frozen (b := g) (o := o) (by simp; omega) hgl).trans z0
        have y1 := (f1.frozen (b := g) (o := o + 1) (by simp; omega) hgl).trans z1
        have y2 := (f1.frozen (b := g) (o := o + 2) (by simp; omega) hgl).trans z2
        have y3 := (f1.frozen (b := g) (o := o + 3) (by simp; omega) hgl).trans z3
        have y4 := (f1.frozen (b := g) (o := o + 4) (by simp; omega) hgl).trans z4
        have hgR : R ≠ g := by omega
        have hgR' : g ≠ R := by omega
        have h1c : (1 : Int) ≤ ((n - d : Nat) : Int) := by omega
        have h1k : n - d ≤ cap := hcap
        clear c0 c1 c2 c3 c4 z0 z1 z2 z3 z4 hRr g16
        obtain ⟨w2, hw2⟩ : ∃ w2, w2 = w1.setCells g o [.string ⟨#[]⟩, .int .i64 0, .int .u64 0, .string ⟨#[]⟩, .int .i64 0] := ⟨_, rfl⟩
        have f2 : Fr [g] w1 w2 := by rw [hw2]; exact Fr.grown (grown_setCells g _ _ w1) (by simp)
        have hR2 := hR1.keep f2 (by simp; omega)
        have hL2 := f2.map (by simp; omega) hL1
        have hog : own R v = g := by rw [← HO.out]; rfl
        have f12 : Fr [R, L, own R v] w w2 := by
          rw [hog] at hf ⊢
          exact (hf.trans (f1.wide (by simp))).trans (f2.wide (by simp))
        have hS2 : Says (D'.del (kk kf d)) (fun l => S l ∧ ∀ i, i < d + 1 → l ≠ kk kf i) := by
          have h := Says.del (D := D') (S := fun l => S l ∧ ∀ i, i < d → l ≠ kk kf i) HS.out (kk kf d)
          intro l
          have e : (S l ∧ ∀ i, i < d + 1 → l ≠ kk kf i) ↔ ((S l ∧ ∀ i, i < d → l ≠ kk kf i) ∧ l ≠ kk kf d) := by
            constructor
            · intro hh; exact ⟨⟨hh.1, fun i hi => hh.2 i (by omega)⟩, hh.2 d (by omega)⟩
            · intro hh
              refine ⟨hh.1.1, fun i hi => ?_⟩
              by_cases e : i = d
              · rw [e]; exact hh.2
              · exact hh.1.2 i (by omega)
          exact ⟨fun x => (h l).1 (e.1 x), fun x => (h l).2 (fun y => x (e.2 y))⟩
        have hfin : ∀ v2, Row B w2 v2 (n - d - 1) (fun i => lapF kf at_ (i + 1 + d)) → own R v2 = g → FI R K M L C nL m0 cnt now B n v kf at_ S w (gk - 1) (w2.setCell ⟨R, 17, none⟩ v2) := by
          intro v2 hrow2 hown2
          have hkk := HK.out
          have f23 : Fr [R] w2 (w2.setCell ⟨R, 17, none⟩ v2) := Fr.set _ (by simp) _
          have hb2 : ∀ b, v2.ownBlock = some b → b = g := by
            intro b hb
            unfold own at hown2
            rw [hb] at hown2
            exact hown2
          have hrow3 := Row.keepF hrow2 f23 (by intro b hb; rw [hb2 b hb]; simp; omega)
          refine ⟨d + 1, v2, D'.del (kk kf d), by omega, fun i hi => ?_, hR2.set17 v2, ?_, f23.map (by simp; omega) hL2, hS2, f12.trans (f23.wide (by simp)), by rw [hown2, hog]⟩
          · by_cases e : i = d
            · rw [e]; exact hx
            · exact HA.out i (by omega)
          · rw [show n - (d + 1) = n - d - 1 by omega]
            have ef : (fun i => lapF kf at_ (i + (d + 1))) = (fun i => lapF kf at_ (i + 1 + d)) := by funext i; rw [show i + (d + 1) = i + 1 + d by omega]
            rw [ef]
            exact hrow3
        have HW := (show Hid _ from hw2)
        clear hw2 hS2 f12 hR2 hL2
        by_cases hcp : cap = 1
        · subst hcp
          have hnd : n - d = 1 := by omega
          have hfin2 := hfin (.slice (some ⟨g, o, none⟩) 0 0) (Or.inr ⟨g, o, 0, by rw [show n - d - 1 = 0 by omega], hBg, Nat.lt_of_lt_of_le hgl (Nat.le_trans f1.size f2.size), by omega, by omega, fun i q hi _ => by omega, fun j hj => by omega⟩) rfl
          clear hfin
          have HFi := (show Hid _ from hfin2)
          clear hfin2 hnd
          go_wp2
          go_roundg (gk - 1)
          case measure => have := HK.out; omega
          case rel =>
            have h := HFi.out
            rw [HW.out, setCells5] at h
            exact h
        · have hfin2 := hfin (.slice (some ⟨g, o + 5, none⟩) (n - d - 1) (cap - 1)) (by
            have hr := hrw1
            rw [show n - d = (n - d - 1) + 1 by omega] at hr
            rw [HW.out]
            exact Row.rest hr _ rfl) rfl
          clear hfin
          have HFi := (show Hid _ from hfin2)
          clear hfin2
          go_wp2
          go_roundg (gk - 1)
          case measure => have := HK.out; omega
          case rel =>
            have h := HFi.out
            rw [HW.out, setCells5] at h
            exact h
      · go_wp2_with fail
        go_end0
        refine ⟨rfl, gk, ⟨d, _, D', hk, HA.out, hRr, HR.out, hLr, HS.out, hf, hov⟩, fun _ => ?_⟩
        rw [show n - gk = d by omega]
        exact hx
    · obtain rfl : d = n := by omega
      obtain rfl : gk = 0 := by omega
      have HW := (show Hid _ from hrw)
      have HA := (show Hid _ from hat)
      have HS := (show Hid _ from hSr)
      have HF := (show Hid _ from hkf)
      obtain ⟨a', c', rfl⟩ : ∃ a' c', v' = .slice a' 0 c' := by
        rcases hrw with ⟨h, _⟩ | ⟨g, o, cap, h, _⟩
        · exact ⟨_, _, h⟩
        · rw [Nat.sub_self] at h; exact ⟨_, _, h⟩
      clear hat hSr hS hkf hrw hrow hL hR
      go_wp2_with fail
      go_end0
      exact ⟨rfl, 0, ⟨d, _, D', hk, HA.out, hRr, HW.out, hLr, HS.out, hf, hov⟩, fun h => absurd h (by omega)⟩

end Go.Proofs.Ybulkaixg.Lapse
