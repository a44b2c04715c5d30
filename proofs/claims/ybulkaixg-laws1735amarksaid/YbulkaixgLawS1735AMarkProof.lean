/-
  THE PROOF OF 'Rows.LawS1735AMarkSaid': the frame is the guide's shell, turned to 'Below'; four structs by value; the walk lies in YbulkaixgMarkLaw.
-/
import Derived.Test.YbulkaixgRows
import Derived.WalkKit
import Derived.ProofKit
import Derived.OpenShut
import Derived.ShutString
import Derived.ChangeOld
import Derived.Below
import Derived.Lib.SmallJoins
import Derived.Test.YbulkaixgMarkLaw
namespace Go.Proofs.Ybulkaixg.lawS1735AMark
open Go.ChangeShapes Go.WideShapes Go.ChangeAt Go.RowKit
open Go.ChangeMaps (open_string shut_string)
set_option linter.unusedVariables false

theorem own : ownKnob Yba.prog.godebug = none := by kernel_rfl

set_option maxRecDepth 100000 in
theorem openV {H : Type} {enc : TypeId × Value → H} {w : World} {base : Nat} {spare : Nat → Bool} {held : Bool} {r : Reach} {b0 : Nat} {v : Value} {d : DataW H} {p : List MemPlace}
    (hv : Value.okWide Yba.prog w r b0 119 v) (h : DataW.Trod enc Yba.prog w base spare held 119 v d p) :
    ∃ (a : Int) (s : ByteArray), v = .agg #[.int .u64 a, .string s] ∧ d = .agg [.lit (.int .u64 a), .lit (.string s.data.toList)] ∧ p = [] ∧ (Lit.int .u64 a).wf = true ∧ s.size ≤ maxLen := by
  obtain ⟨c0, c1, y0, y1, m, rfl, rfl, rfl, hy0, hy1⟩ := Joins.open_agg2 Yba.underlying119 (by kernel_rfl) (by kernel_rfl) hv h
  obtain ⟨a, e0, rfl, wa⟩ := DataW.trod_int Yba.underlying23 hy0
  obtain ⟨b, e1, rfl, wb⟩ := DataW.trod_string Yba.underlying9 hy1
  simp at e0 e1
  subst e0 e1
  exact ⟨a, b, rfl, rfl, rfl, wa, wb⟩

set_option maxRecDepth 100000 in
theorem shutV {H : Type} {enc : TypeId × Value → H} {w : World} {base : Nat} {spare : Nat → Bool} {held : Bool} {a : Int} {s : ByteArray} (wa : (Lit.int .u64 a).wf = true) (hs : s.size ≤ maxLen) :
    DataW.Trod enc Yba.prog w base spare held 119 (.agg #[.int .u64 a, .string s]) (.agg [.lit (.int .u64 a), .lit (.string s.data.toList)]) [] :=
  Joins.shut_agg2 (y0 := (.lit (.int .u64 a), [])) (y1 := (.lit (.string s.data.toList), [])) Yba.underlying119 (by kernel_rfl) (by kernel_rfl) ⟨1, by simp [DataW.trod, Yba.underlying23, wa]⟩ ⟨1, by simp [DataW.trod, Yba.underlying9, hs]⟩

set_option maxRecDepth 100000 in
theorem lifted (os : Os) (started : os.Started) (H : Type) (enc : TypeId × Value → H) :
    ReturnsInHanded {} Yba.checked os 4 .any (Rows.lawS1735AMarkSpec.pre6 enc Yba.prog Yba.f4 Rows.lawS1735AMarkRow.domain false) (Rows.lawS1735AMarkSpec.post enc Yba.prog Yba.f4 false true false false) := by
  refine returnsInHanded_of_change (C := Yba.checked) own started (by kernel_rfl) Yba.func4
    (ChangeSpec.witness6 (enc := enc) (C := Yba.checked) false ⟨#[], #[.string ByteArray.empty, .int .i64 0, .agg #[.int .u64 0, .string ByteArray.empty], .agg #[.int .u64 0, .string ByteArray.empty], .agg #[.int .u64 0, .string ByteArray.empty], .agg #[.int .u64 0, .string ByteArray.empty], .bool false, .bool false, .int .i64 0], []⟩ 8 (by kernel_rfl) (by kernel_rfl) (by kernel_rfl) (by kernel_rfl)) ?_
  intro W base args ds gs before hval0 hW hcnd _
  have hval : ∀ (j : Nat) t v, Yba.f4.params[j]? = some t → args[j]? = some v → Value.okWide Yba.prog W .any base t v := hval0
  have hW' := hW
  obtain ⟨p, q, hA0, hV, rfl, hfz, hnd⟩ := hW
  have hA : DataW.TrodAll enc Yba.prog W 0 (fun _ => true) true Yba.f4.params.toList args.toList ds p := hA0
  rw [Yba.params4] at hA hval
  obtain ⟨v0, vs0, d0, ds0, p0, q0, hargs, rfl, rfl, h0, r0⟩ := trodAll_cons hA
  obtain ⟨v1, vs1, d1, ds1, p1, q1, rfl, rfl, rfl, h1, r1⟩ := trodAll_cons r0
  obtain ⟨v2, vs2, d2, ds2, p2, q2, rfl, rfl, rfl, h2, r2⟩ := trodAll_cons r1
  obtain ⟨v3, vs3, d3, ds3, p3, q3, rfl, rfl, rfl, h3, r3⟩ := trodAll_cons r2
  obtain ⟨v4, vs4, d4, ds4, p4, q4, rfl, rfl, rfl, h4, r4⟩ := trodAll_cons r3
  obtain ⟨v5, vs5, d5, ds5, p5, q5, rfl, rfl, rfl, h5, r5⟩ := trodAll_cons r4
  obtain ⟨v6, vs6, d6, ds6, p6, q6, rfl, rfl, rfl, h6, r6⟩ := trodAll_cons r5
  obtain ⟨v7, vs7, d7, ds7, p7, q7, rfl, rfl, rfl, h7, r7⟩ := trodAll_cons r6
  obtain ⟨v8, vs8, d8, ds8, p8, q8, rfl, rfl, rfl, h8, r8⟩ := trodAll_cons r7
  obtain ⟨rfl, rfl, rfl⟩ := trodAll_nil r8
  obtain rfl : args = #[v0, v1, v2, v3, v4, v5, v6, v7, v8] := by cases args; simp_all
  obtain ⟨rfl, rfl⟩ := trodVars_none hV
  obtain ⟨a0, rfl, rfl, rfl, w0⟩ := open_string Yba.underlying9 (hval 0 9 v0 rfl rfl) h0
  obtain ⟨a1, rfl, rfl, rfl, w1⟩ := open_int Yba.underlying2 (hval 1 2 v1 rfl rfl) h1
  obtain ⟨c2, m2, rfl, rfl, rfl, wc2, wm2⟩ := openV (hval 2 119 v2 rfl rfl) h2
  obtain ⟨c3, m3, rfl, rfl, rfl, wc3, wm3⟩ := openV (hval 3 119 v3 rfl rfl) h3
  obtain ⟨c4, m4, rfl, rfl, rfl, wc4, wm4⟩ := openV (hval 4 119 v4 rfl rfl) h4
  obtain ⟨c5, m5, rfl, rfl, rfl, wc5, wm5⟩ := openV (hval 5 119 v5 rfl rfl) h5
  obtain ⟨a6, rfl, rfl, rfl⟩ := open_bool Yba.underlying4 (hval 6 4 v6 rfl rfl) h6
  obtain ⟨a7, rfl, rfl, rfl⟩ := open_bool Yba.underlying4 (hval 7 4 v7 rfl rfl) h7
  obtain ⟨a8, rfl, rfl, rfl, w8⟩ := open_int Yba.underlying2 (hval 8 2 v8 rfl rfl) h8
  clear hA0 hval0
  refine (Marks.law_mark a0 a1 c2 c3 c4 c5 a8 m2 m3 m4 m5 a6 a7 W w0 w1 wc2 wm2).mono fun e W' ⟨he, bel⟩ => ?_
  subst he
  exact ⟨_, rfl, _, _, _, [], _, [], hW', trodAll_mk1 (shut_bool Yba.underlying4 _), (trodAll_cons_mk (shut_string Yba.underlying9 w0) (trodAll_cons_mk (shut_int Yba.underlying2 w1) (trodAll_cons_mk (shutV wc2 wm2) (trodAll_cons_mk (shutV wc3 wm3) (trodAll_cons_mk (shutV wc4 wm4) (trodAll_cons_mk (shutV wc5 wm5) (trodAll_cons_mk (shut_bool Yba.underlying4 _) (trodAll_cons_mk (shut_bool Yba.underlying4 _) (trodAll_cons_mk (shut_int Yba.underlying2 w8) trodAll_mk0))))))))), rfl, bel.frame _, fun h => by cases h⟩

theorem over : Rows.lawS1735AMarkRow.holds Yba.pinned (OpenSpec.ofChange Rows.lawS1735AMarkSpec) :=
  OpenClaim.holds_of_wide 4 Yba.f4 rfl rfl rfl rfl rfl rfl rfl ⟨rfl, rfl, rfl, rfl, rfl⟩ rfl rfl rfl rfl rfl (by kernel_rfl) Yba.func4 (by kernel_rfl)
    (of_decide_eq_true (by kernel_rfl)) (by unfold Func.isWrapper; first | (rw [if_pos (by decide +kernel)]; kernel_rfl) | (rw [if_neg (by decide +kernel)]; exact ⟨rfl, rfl⟩))
    (fun os started H enc _ => lifted os started H enc)

/-- THE STATEMENT. -/
theorem proved : Rows.LawS1735AMarkSaid :=
  over
end Go.Proofs.Ybulkaixg.lawS1735AMark
