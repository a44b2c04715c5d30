/-
  The frame Fr; what a Replica, marks, a mark keep under it; small readers.
-/
import Derived.Test.YbulkaixgNew
import Derived.Conc.RwLoneW
import Derived.Deep.DeepCutAuto
namespace Go.Proofs.Ybulkaixg.Marks
open Go.RowKit Go.Maps Go.WideMaps Go.RwLone Cmp Mp
set_option linter.unusedVariables false
set_option linter.unusedSimpArgs false
set_option maxRecDepth 100000
attribute [local go_sem ↓] Go.wp_at_zero Go.wp_at_succ

/-- w' is w with new blocks, and with writes to the blocks of the list alone. -/
structure Fr (bs : List Nat) (w w' : World) : Prop where
  os : w'.os = w.os
  tape : w'.tape = w.tape
  output : w'.output = w.output
  size : w.heap.size ≤ w'.heap.size
  block : ∀ b, b < w.heap.size → b ∉ bs → w'.heap[b]? = w.heap[b]?

theorem Fr.refl (bs : List Nat) (w : World) : Fr bs w w := ⟨rfl, rfl, rfl, Nat.le_refl _, fun _ _ _ => rfl⟩
theorem Fr.trans {bs : List Nat} {a b c : World} (h : Fr bs a b) (k : Fr bs b c) : Fr bs a c :=
  ⟨k.os.trans h.os, k.tape.trans h.tape, k.output.trans h.output, Nat.le_trans h.size k.size, fun j hj hn => (k.block j (Nat.lt_of_lt_of_le hj h.size) hn).trans (h.block j hj hn)⟩
theorem Fr.below {bs : List Nat} {w w' : World} (h : Below w.heap.size w w') : Fr bs w w' := ⟨h.os, h.tape, h.output, h.size, fun j hj _ => h.block j hj⟩
theorem Fr.grown {bs : List Nat} {w w' : World} {M : Nat} (h : w.grownBy w' (some M)) (hM : M ∈ bs) : Fr bs w w' :=
  ⟨h.os, h.tape, h.output, h.size, fun j hj hn => h.block j hj (fun e => hn (by cases e; exact hM))⟩
theorem Fr.set {bs : List Nat} (w : World) {a : Addr} (ha : a.block ∈ bs) (v : Value) : Fr bs w (w.setCell a v) :=
  ⟨rfl, rfl, rfl, by simp, fun j hj hn => Below.heap_setCell w a v j (fun e => hn (by rw [e]; exact ha))⟩
theorem Fr.chan {bs : List Nat} (w : World) {c : Nat} (hc : c ∈ bs) (cap : Nat) (buf : Array Value) (cl : Bool) (s r : Nat) (tm : Bool) : Fr bs w (w.setChan c cap buf cl s r tm) :=
  ⟨rfl, rfl, rfl, by simp [World.setChan], fun j hj hn => by
    have : c ≠ j := fun e => hn (by rw [← e]; exact hc)
    simp [World.setChan, Array.getElem?_setIfInBounds_ne this]⟩
theorem Fr.alloc {bs : List Nat} (w : World) (o : Obj) : Fr bs w (w.alloc o) := Fr.below ((Below.refl _ _).alloc (Nat.le_refl _) o)
theorem Fr.drew {bs : List Nat} {w w' : World} (h : Fr bs w w') : Fr bs w w'.drew := ⟨h.os, h.tape, h.output, h.size, h.block⟩
theorem Fr.cell {bs : List Nat} {w w' : World} (h : Fr bs w w') {b o : Nat} {v : Value} (hb : b ∉ bs) (hc : w.cell? ⟨b, o, none⟩ = some v) : w'.cell? ⟨b, o, none⟩ = some v :=
  (World.cell?_of_block (h.block b (block_lt_of_cell hc) hb)).trans hc
theorem Fr.frozen {bs : List Nat} {w w' : World} (h : Fr bs w w') {b o : Nat} (hb : b ∉ bs) (hl : b < w.heap.size) : w'.frozen? ⟨b, o, none⟩ = w.frozen? ⟨b, o, none⟩ :=
  World.frozen?_of_block (h.block b hl hb)
theorem Fr.map {bs : List Nat} {w w' : World} (h : Fr bs w w') {H : Type} {kt : TypeId} {Rd : Value → Option (DataW H × List MemPlace)} {b n : Nat} {D : DataW H} (hb : b ∉ bs) (hm : w.ownsMap Yba.prog kt Rd b n D) : w'.ownsMap Yba.prog kt Rd b n D := by
  have hl := hm.lt
  obtain ⟨es, clock, hh, F, hs, hD⟩ := hm
  exact ⟨es, clock, (h.block b hl hb).trans hh, F, hs, hD⟩

theorem cset_ne (w : World) (b o b' o' : Nat) (v : Value) (h : ¬ (b' = b ∧ o' = o)) : (w.setCell ⟨b, o, none⟩ v).cell? ⟨b', o', none⟩ = w.cell? ⟨b', o', none⟩ :=
  World.cell?_setCell_other w _ _ _ (by intro e; apply h; cases e; exact ⟨rfl, rfl⟩)

theorem Rep.keep {bs : List Nat} {w w' : World} {R K M L C : Nat} {m0 cnt : Int} {lap : Value} (h : Rep w R K M L C m0 cnt lap) (hf : Fr bs w w') (hR : R ∉ bs) : Rep w' R K M L C m0 cnt lap := by
  have hl := block_lt_of_cell h.c0
  exact ⟨hf.cell hR h.c0, hf.cell hR h.c2, hf.cell hR h.c3, hf.cell hR h.c4, hf.cell hR h.c6, hf.cell hR h.c14, hf.cell hR h.c15, hf.cell hR h.c16, hf.cell hR h.c17, hf.cell hR h.c18, hf.cell hR h.c44,
    (hf.frozen hR hl).trans h.f0, (hf.frozen hR hl).trans h.f4, (hf.frozen hR hl).trans h.f17⟩

theorem Rep.set0 {w : World} {R K M L C : Nat} {m0 cnt : Int} {lap : Value} (h : Rep w R K M L C m0 cnt lap) (n : Int) : Rep (w.setCell ⟨R, 0, none⟩ (.int .i32 n)) R K M L C n cnt lap :=
  ⟨World.cell?_setCell_same w _ _ h.c0, (cset_ne _ _ _ _ _ _ (by omega)).trans h.c2, (cset_ne _ _ _ _ _ _ (by omega)).trans h.c3, (cset_ne _ _ _ _ _ _ (by omega)).trans h.c4, (cset_ne _ _ _ _ _ _ (by omega)).trans h.c6, (cset_ne _ _ _ _ _ _ (by omega)).trans h.c14, (cset_ne _ _ _ _ _ _ (by omega)).trans h.c15, (cset_ne _ _ _ _ _ _ (by omega)).trans h.c16, (cset_ne _ _ _ _ _ _ (by omega)).trans h.c17, (cset_ne _ _ _ _ _ _ (by omega)).trans h.c18, (cset_ne _ _ _ _ _ _ (by omega)).trans h.c44,
    by simpa using h.f0, by simpa using h.f4, by simpa using h.f17⟩
theorem Rep.set4 {w : World} {R K M L C : Nat} {m0 cnt : Int} {lap : Value} (h : Rep w R K M L C m0 cnt lap) (n : Int) : Rep (w.setCell ⟨R, 4, none⟩ (.int .i32 n)) R K M L C m0 n lap :=
  ⟨(cset_ne _ _ _ _ _ _ (by omega)).trans h.c0, (cset_ne _ _ _ _ _ _ (by omega)).trans h.c2, (cset_ne _ _ _ _ _ _ (by omega)).trans h.c3, World.cell?_setCell_same w _ _ h.c4, (cset_ne _ _ _ _ _ _ (by omega)).trans h.c6, (cset_ne _ _ _ _ _ _ (by omega)).trans h.c14, (cset_ne _ _ _ _ _ _ (by omega)).trans h.c15, (cset_ne _ _ _ _ _ _ (by omega)).trans h.c16, (cset_ne _ _ _ _ _ _ (by omega)).trans h.c17, (cset_ne _ _ _ _ _ _ (by omega)).trans h.c18, (cset_ne _ _ _ _ _ _ (by omega)).trans h.c44,
    by simpa using h.f0, by simpa using h.f4, by simpa using h.f17⟩
theorem Rep.set17 {w : World} {R K M L C : Nat} {m0 cnt : Int} {lap : Value} (h : Rep w R K M L C m0 cnt lap) (v : Value) : Rep (w.setCell ⟨R, 17, none⟩ v) R K M L C m0 cnt v :=
  ⟨(cset_ne _ _ _ _ _ _ (by omega)).trans h.c0, (cset_ne _ _ _ _ _ _ (by omega)).trans h.c2, (cset_ne _ _ _ _ _ _ (by omega)).trans h.c3, (cset_ne _ _ _ _ _ _ (by omega)).trans h.c4, (cset_ne _ _ _ _ _ _ (by omega)).trans h.c6, (cset_ne _ _ _ _ _ _ (by omega)).trans h.c14, (cset_ne _ _ _ _ _ _ (by omega)).trans h.c15, (cset_ne _ _ _ _ _ _ (by omega)).trans h.c16, World.cell?_setCell_same w _ _ h.c17, (cset_ne _ _ _ _ _ _ (by omega)).trans h.c18, (cset_ne _ _ _ _ _ _ (by omega)).trans h.c44,
    by simpa using h.f0, by simpa using h.f4, by simpa using h.f17⟩

/-- The marks of a key at block k. -/
structure KM (w : World) (k : Nat) (h : Value) (pc : Int) (pm : ByteArray) (uc : Int) (um : ByteArray) : Prop where
  c0 : w.cell? ⟨k, 0, none⟩ = some h
  c1 : w.cell? ⟨k, 1, none⟩ = some (.int .u64 pc)
  c2 : w.cell? ⟨k, 2, none⟩ = some (.string pm)
  c3 : w.cell? ⟨k, 3, none⟩ = some (.int .u64 uc)
  c4 : w.cell? ⟨k, 4, none⟩ = some (.string um)
  c5 : w.cell? ⟨k, 5, none⟩ = some (.map none)
  f0 : w.frozen? ⟨k, 0, none⟩ = false
  f1 : w.frozen? ⟨k, 1, none⟩ = false
  f2 : w.frozen? ⟨k, 2, none⟩ = false
  f3 : w.frozen? ⟨k, 3, none⟩ = false
  f4 : w.frozen? ⟨k, 4, none⟩ = false

theorem KM.keep {bs : List Nat} {w w' : World} {k : Nat} {h : Value} {pc uc : Int} {pm um : ByteArray} (H : KM w k h pc pm uc um) (hf : Fr bs w w') (hk : k ∉ bs) : KM w' k h pc pm uc um := by
  have hl := block_lt_of_cell H.c0
  exact ⟨hf.cell hk H.c0, hf.cell hk H.c1, hf.cell hk H.c2, hf.cell hk H.c3, hf.cell hk H.c4, hf.cell hk H.c5, (hf.frozen hk hl).trans H.f0, (hf.frozen hk hl).trans H.f1, (hf.frozen hk hl).trans H.f2, (hf.frozen hk hl).trans H.f3, (hf.frozen hk hl).trans H.f4⟩
theorem KM.setH {w : World} {k : Nat} {h : Value} {pc uc : Int} {pm um : ByteArray} (H : KM w k h pc pm uc um) (v : Value) : KM (w.setCell ⟨k, 0, none⟩ v) k v pc pm uc um :=
  ⟨World.cell?_setCell_same w _ _ H.c0, (cset_ne _ _ _ _ _ _ (by omega)).trans H.c1, (cset_ne _ _ _ _ _ _ (by omega)).trans H.c2, (cset_ne _ _ _ _ _ _ (by omega)).trans H.c3, (cset_ne _ _ _ _ _ _ (by omega)).trans H.c4, (cset_ne _ _ _ _ _ _ (by omega)).trans H.c5,
    by simpa using H.f0, by simpa using H.f1, by simpa using H.f2, by simpa using H.f3, by simpa using H.f4⟩
theorem KM.setP {w : World} {k : Nat} {h : Value} {pc uc : Int} {pm um : ByteArray} (H : KM w k h pc pm uc um) (c : Int) (m : ByteArray) : KM ((w.setCell ⟨k, 1, none⟩ (.int .u64 c)).setCell ⟨k, 2, none⟩ (.string m)) k h c m uc um :=
  ⟨(cset_ne _ _ _ _ _ _ (by omega)).trans ((cset_ne _ _ _ _ _ _ (by omega)).trans H.c0), (cset_ne _ _ _ _ _ _ (by omega)).trans (World.cell?_setCell_same w _ _ H.c1), World.cell?_setCell_same _ _ _ ((cset_ne _ _ _ _ _ _ (by omega)).trans H.c2), (cset_ne _ _ _ _ _ _ (by omega)).trans ((cset_ne _ _ _ _ _ _ (by omega)).trans H.c3), (cset_ne _ _ _ _ _ _ (by omega)).trans ((cset_ne _ _ _ _ _ _ (by omega)).trans H.c4), (cset_ne _ _ _ _ _ _ (by omega)).trans ((cset_ne _ _ _ _ _ _ (by omega)).trans H.c5),
    by simpa using H.f0, by simpa using H.f1, by simpa using H.f2, by simpa using H.f3, by simpa using H.f4⟩
theorem KM.setU {w : World} {k : Nat} {h : Value} {pc uc : Int} {pm um : ByteArray} (H : KM w k h pc pm uc um) (c : Int) (m : ByteArray) : KM ((w.setCell ⟨k, 3, none⟩ (.int .u64 c)).setCell ⟨k, 4, none⟩ (.string m)) k h pc pm c m :=
  ⟨(cset_ne _ _ _ _ _ _ (by omega)).trans ((cset_ne _ _ _ _ _ _ (by omega)).trans H.c0), (cset_ne _ _ _ _ _ _ (by omega)).trans ((cset_ne _ _ _ _ _ _ (by omega)).trans H.c1), (cset_ne _ _ _ _ _ _ (by omega)).trans ((cset_ne _ _ _ _ _ _ (by omega)).trans H.c2), (cset_ne _ _ _ _ _ _ (by omega)).trans (World.cell?_setCell_same w _ _ H.c3), World.cell?_setCell_same _ _ _ ((cset_ne _ _ _ _ _ _ (by omega)).trans H.c4), (cset_ne _ _ _ _ _ _ (by omega)).trans ((cset_ne _ _ _ _ _ _ (by omega)).trans H.c5),
    by simpa using H.f0, by simpa using H.f1, by simpa using H.f2, by simpa using H.f3, by simpa using H.f4⟩

/-- A mark at block m: its ticket, what lies below it, its channel. -/
structure Mk (w : World) (m c : Nat) (s : Int) (tc : Int) (tm : ByteArray) (lc : Int) (lm : ByteArray) : Prop where
  c0 : w.cell? ⟨m, 0, none⟩ = some (.int .i64 s)
  c1 : w.cell? ⟨m, 1, none⟩ = some (.int .u64 tc)
  c2 : w.cell? ⟨m, 2, none⟩ = some (.string tm)
  c5 : w.cell? ⟨m, 5, none⟩ = some (.int .u64 lc)
  c6 : w.cell? ⟨m, 6, none⟩ = some (.string lm)
  c7 : w.cell? ⟨m, 7, none⟩ = some (.chan (some c))
  ch : w.heap[c]? = some (.chan 0 #[] false 0 0 false)
theorem Mk.keep {bs : List Nat} {w w' : World} {m c : Nat} {s tc lc : Int} {tm lm : ByteArray} (H : Mk w m c s tc tm lc lm) (hf : Fr bs w w') (hm : m ∉ bs) (hc : c ∉ bs) : Mk w' m c s tc tm lc lm :=
  ⟨hf.cell hm H.c0, hf.cell hm H.c1, hf.cell hm H.c2, hf.cell hm H.c5, hf.cell hm H.c6, hf.cell hm H.c7, (hf.block c (Array.getElem?_eq_some_iff.1 H.ch).1 hc).trans H.ch⟩

theorem Fr.drewN {bs : List Nat} (w : World) (n : Nat) : Fr bs w (w.drewN n) := ⟨rfl, rfl, rfl, Nat.le_refl _, fun _ _ _ => rfl⟩
theorem Fr.wide {bs cs : List Nat} {w w' : World} (h : Fr bs w w') (hs : ∀ b, b ∈ bs → b ∈ cs) : Fr cs w w' := ⟨h.os, h.tape, h.output, h.size, fun b hb hn => h.block b hb (fun e => hn (hs b e))⟩

theorem method_elapsed (a : Addr) (w : World) : (method 492 24 (.pointer (some a)) "Elapsed").run Yba.prog w = .ok (103, .pointer (some a)) w := by kernel_rfl

theorem owns_empty {w : World} {b : Nat} (h : w.heap[b]? = some (.map #[] 0)) (kt : TypeId) (Rd : Value → Option (DataW Unit × List MemPlace)) : w.ownsMap Yba.prog kt Rd b 0 (.map []) :=
  ⟨#[], 0, h, ⟨by simp, MapKept.stamped_empty 0, by simp⟩, Nat.le_refl _, rfl⟩

theorem Fr.under {bs : List Nat} {w w' : World} {B : Nat} (h : Fr bs w w') (hb : ∀ b, b ∈ bs → B ≤ b) (hB : B ≤ w.heap.size) : Below B w w' :=
  ⟨h.os, h.tape, h.output, h.size, fun j hj => h.block j (Nat.lt_of_lt_of_le hj hB) (fun e => Nat.lt_irrefl _ (Nat.lt_of_lt_of_le hj (hb j e)))⟩

/-- A block of two cells: a version. -/
structure V2 (w : World) (b : Nat) (c : Int) (m : ByteArray) : Prop where
  c0 : w.cell? ⟨b, 0, none⟩ = some (.int .u64 c)
  c1 : w.cell? ⟨b, 1, none⟩ = some (.string m)
theorem V2.keep {bs : List Nat} {w w' : World} {b : Nat} {c : Int} {m : ByteArray} (h : V2 w b c m) (hf : Fr bs w w') (hb : b ∉ bs) : V2 w' b c m := ⟨hf.cell hb h.c0, hf.cell hb h.c1⟩
/-- A block of three cells: a ticket. -/
structure T3 (w : World) (b : Nat) (s c : Int) (m : ByteArray) : Prop where
  c0 : w.cell? ⟨b, 0, none⟩ = some (.int .i64 s)
  c1 : w.cell? ⟨b, 1, none⟩ = some (.int .u64 c)
  c2 : w.cell? ⟨b, 2, none⟩ = some (.string m)
theorem T3.keep {bs : List Nat} {w w' : World} {b : Nat} {s c : Int} {m : ByteArray} (h : T3 w b s c m) (hf : Fr bs w w') (hb : b ∉ bs) : T3 w' b s c m := ⟨hf.cell hb h.c0, hf.cell hb h.c1, hf.cell hb h.c2⟩

theorem plain_bool_inv {v : Value} {b : Bool} {ps : List MemPlace} (h : plainElem (H := Unit) Yba.prog 4 v = some (.lit (.bool b), ps)) : v = .bool b := by
  unfold plainElem at h
  rw [Yba.underlying4] at h
  cases v <;> simp at h
  simp [h]

theorem look_rel {W : World} {L n : Nat} {D : DataW Unit} {key bm : ByteArray} {since bc : Int} {b : Bool} (hl : W.ownsMap Yba.prog 37 (plainElem (H := Unit) Yba.prog 4) L n D) (hD : D.atKey (relK key since bc bm) (.lit (.bool false)) = .lit (.bool b))
    (hkey : key.size ≤ maxLen) (ws : (Lit.int .i64 since).wf = true) (wb : (Lit.int .u64 bc).wf = true) (hbm : bm.size ≤ maxLen) :
    ∀ nq, (Instr.lookup 60 (.map (some L)) (relV key since bc bm) false).run Yba.prog (W.drewN nq) = .ok (.bool b) (W.drewN nq) := by
  intro nq
  obtain ⟨v, ps, hrun, hv⟩ := ((Fr.drewN (bs := []) W nq).map (by simp) hl).lookup law37 Yba.underlying60 (zero4 _) (plainElem_bool Yba.underlying4 false) (key37 key since bc bm hkey ws wb hbm)
  rw [hD] at hv
  rw [hrun, plain_bool_inv hv]

end Go.Proofs.Ybulkaixg.Marks
