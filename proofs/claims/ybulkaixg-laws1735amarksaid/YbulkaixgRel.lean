/-
  (*Replica).Release (10) where nothing has lapsed and the key's marks are there.
-/
import Derived.Test.YbulkaixgNew
import Derived.Conc.RwLoneW
import Derived.Deep.DeepCutAuto
namespace Go.Proofs.Ybulkaixg.Marks
open Go.RowKit Go.Maps Go.WideMaps Go.RwLone Cmp Mp
set_option linter.unusedVariables false
set_option linter.unusedSimpArgs false
set_option maxRecDepth 100000
attribute [local go_sem ↓] Go.wp_at_zero Go.wp_at_succ

/-- w' is w with new blocks, and with writes to the blocks of the list alone. -/
structure Fr (bs : List Nat) (w w' : World) : Prop where
  os : w'.os = w.os
  tape : w'.tape = w.tape
  output : w'.output = w.output
  size : w.heap.size ≤ w'.heap.size
  block : ∀ b, b < w.heap.size → b ∉ bs → w'.heap[b]? = w.heap[b]?

theorem Fr.refl (bs : List Nat) (w : World) : Fr bs w w := ⟨rfl, rfl, rfl, Nat.le_refl _, fun _ _ _ => rfl⟩
theorem Fr.trans {bs : List Nat} {a b c : World} (h : Fr bs a b) (k : Fr bs b c) : Fr bs a c :=
  ⟨k.os.trans h.os, k.tape.trans h.tape, k.output.trans h.output, Nat.le_trans h.size k.size, fun j hj hn => (k.block j (Nat.lt_of_lt_of_le hj h.size) hn).trans (h.block j hj hn)⟩
theorem Fr.below {bs : List Nat} {w w' : World} (h : Below w.heap.size w w') : Fr bs w w' := ⟨h.os, h.tape, h.output, h.size, fun j hj _ => h.block j hj⟩
theorem Fr.grown {bs : List Nat} {w w' : World} {M : Nat} (h : w.grownBy w' (some M)) (hM : M ∈ bs) : Fr bs w w' :=
  ⟨h.os, h.tape, h.output, h.size, fun j hj hn => h.block j hj (fun e => hn (by cases e; exact hM))⟩
theorem Fr.set {bs : List Nat} (w : World) {a : Addr} (ha : a.block ∈ bs) (v : Value) : Fr bs w (w.setCell a v) :=
  ⟨rfl, rfl, rfl, by simp, fun j hj hn => Below.heap_setCell w a v j (fun e => hn (by rw [e]; exact ha))⟩
theorem Fr.chan {bs : List Nat} (w : World) {c : Nat} (hc : c ∈ bs) (cap : Nat) (buf : Array Value) (cl : Bool) (s r : Nat) (tm : Bool) : Fr bs w (w.setChan c cap buf cl s r tm) :=
  ⟨rfl, rfl, rfl, by simp [World.setChan], fun j hj hn => by
    have : c ≠ j := fun e => hn (by rw [← e]; exact hc)
    simp [World.setChan, Array.getElem?_setIfInBounds_ne this]⟩
theorem Fr.alloc {bs : List Nat} (w : World) (o : Obj) : Fr bs w (w.alloc o) := Fr.below ((Below.refl _ _).alloc (Nat.le_refl _) o)
theorem Fr.drew {bs : List Nat} {w w' : World} (h : Fr bs w w') : Fr bs w w'.drew := ⟨h.os, h.tape, h.output, h.size, h.block⟩
theorem Fr.cell {bs : List Nat} {w w' : World} (h : Fr bs w w') {b o : Nat} {v : Value} (hb : b ∉ bs) (hc : w.cell? ⟨b, o, none⟩ = some v) : w'.cell? ⟨b, o, none⟩ = some v :=
  (World.cell?_of_block (h.block b (block_lt_of_cell hc) hb)).trans hc
theorem Fr.frozen {bs : List Nat} {w w' : World} (h : Fr bs w w') {b o : Nat} (hb : b ∉ bs) (hl : b < w.heap.size) : w'.frozen? ⟨b, o, none⟩ = w.frozen? ⟨b, o, none⟩ :=
  World.frozen?_of_block (h.block b hl hb)
theorem Fr.map {bs : List Nat} {w w' : World} (h : Fr bs w w') {H : Type} {kt : TypeId} {Rd : Value → Option (DataW H × List MemPlace)} {b n : Nat} {D : DataW H} (hb : b ∉ bs) (hm : w.ownsMap Yba.prog kt Rd b n D) : w'.ownsMap Yba.prog kt Rd b n D := by
  have hl := hm.lt
  obtain ⟨es, clock, hh, F, hs, hD⟩ := hm
  exact ⟨es, clock, (h.block b hl hb).trans hh, F, hs, hD⟩

theorem cset_ne (w : World) (b o b' o' : Nat) (v : Value) (h : ¬ (b' = b ∧ o' = o)) : (w.setCell ⟨b, o, none⟩ v).cell? ⟨b', o', none⟩ = w.cell? ⟨b', o', none⟩ :=
  World.cell?_setCell_other w _ _ _ (by intro e; apply h; cases e; exact ⟨rfl, rfl⟩)

theorem Rep.keep {bs : List Nat} {w w' : World} {R K M L C : Nat} {m0 cnt : Int} {lap : Value} (h : Rep w R K M L C m0 cnt lap) (hf : Fr bs w w') (hR : R ∉ bs) : Rep w' R K M L C m0 cnt lap := by
  have hl := block_lt_of_cell h.c0
  exact ⟨hf.cell hR h.c0, hf.cell hR h.c2, hf.cell hR h.c3, hf.cell hR h.c4, hf.cell hR h.c6, hf.cell hR h.c14, hf.cell hR h.c15, hf.cell hR h.c16, hf.cell hR h.c17, hf.cell hR h.c18, hf.cell hR h.c44,
    (hf.frozen hR hl).trans h.f0, (hf.frozen hR hl).trans h.f4, (hf.frozen hR hl).trans h.f17⟩

theorem Rep.set0 {w : World} {R K M L C : Nat} {m0 cnt : Int} {lap : Value} (h : Rep w R K M L C m0 cnt lap) (n : Int) : Rep (w.setCell ⟨R, 0, none⟩ (.int .i32 n)) R K M L C n cnt lap :=
  ⟨World.cell?_setCell_same w _ _ h.c0, (cset_ne _ _ _ _ _ _ (by omega)).trans h.c2, (cset_ne _ _ _ _ _ _ (by omega)).trans h.c3, (cset_ne _ _ _ _ _ _ (by omega)).trans h.c4, (cset_ne _ _ _ _ _ _ (by omega)).trans h.c6, (cset_ne _ _ _ _ _ _ (by omega)).trans h.c14, (cset_ne _ _ _ _ _ _ (by omega)).trans h.c15, (cset_ne _ _ _ _ _ _ (by omega)).trans h.c16, (cset_ne _ _ _ _ _ _ (by omega)).trans h.c17, (cset_ne _ _ _ _ _ _ (by omega)).trans h.c18, (cset_ne _ _ _ _ _ _ (by omega)).trans h.c44,
    by simpa using h.f0, by simpa using h.f4, by simpa using h.f17⟩
theorem Rep.set4 {w : World} {R K M L C : Nat} {m0 cnt : Int} {lap : Value} (h : Rep w R K M L C m0 cnt lap) (n : Int) : Rep (w.setCell ⟨R, 4, none⟩ (.int .i32 n)) R K M L C m0 n lap :=
  ⟨(cset_ne _ _ _ _ _ _ (by omega)).trans h.c0, (cset_ne _ _ _ _ _ _ (by omega)).trans h.c2, (cset_ne _ _ _ _ _ _ (by omega)).trans h.c3, World.cell?_setCell_same w _ _ h.c4, (cset_ne _ _ _ _ _ _ (by omega)).trans h.c6, (cset_ne _ _ _ _ _ _ (by omega)).trans h.c14, (cset_ne _ _ _ _ _ _ (by omega)).trans h.c15, (cset_ne _ _ _ _ _ _ (by omega)).trans h.c16, (cset_ne _ _ _ _ _ _ (by omega)).trans h.c17, (cset_ne _ _ _ _ _ _ (by omega)).trans h.c18, (cset_ne _ _ _ _ _ _ (by omega)).trans h.c44,
    by simpa using h.f0, by simpa using h.f4, by simpa using h.f17⟩
theorem Rep.set17 {w : World} {R K M L C : Nat} {m0 cnt : Int} {lap : Value} (h : Rep w R K M L C m0 cnt lap) (v : Value) : Rep (w.setCell ⟨R, 17, none⟩ v) R K M L C m0 cnt v :=
  ⟨(cset_ne _ _ _ _ _ _ (by omega)).trans h.c0, (cset_ne _ _ _ _ _ _ (by omega)).trans h.c2, (cset_ne _ _ _ _ _ _ (by omega)).trans h.c3, (cset_ne _ _ _ _ _ _ (by omega)).trans h.c4, (cset_ne _ _ _ _ _ _ (by omega)).trans h.c6, (cset_ne _ _ _ _ _ _ (by omega)).trans h.c14, (cset_ne _ _ _ _ _ _ (by omega)).trans h.c15, (cset_ne _ _ _ _ _ _ (by omega)).trans h.c16, World.cell?_setCell_same w _ _ h.c17, (cset_ne _ _ _ _ _ _ (by omega)).trans h.c18, (cset_ne _ _ _ _ _ _ (by omega)).trans h.c44,
    by simpa using h.f0, by simpa using h.f4, by simpa using h.f17⟩

/-- The marks of a key at block k. -/
structure KM (w : World) (k : Nat) (h : Value) (pc : Int) (pm : ByteArray) (uc : Int) (um : ByteArray) : Prop where
  c0 : w.cell? ⟨k, 0, none⟩ = some h
  c1 : w.cell? ⟨k, 1, none⟩ = some (.int .u64 pc)
  c2 : w.cell? ⟨k, 2, none⟩ = some (.string pm)
  c3 : w.cell? ⟨k, 3, none⟩ = some (.int .u64 uc)
  c4 : w.cell? ⟨k, 4, none⟩ = some (.string um)
  c5 : w.cell? ⟨k, 5, none⟩ = some (.map none)
  f0 : w.frozen? ⟨k, 0, none⟩ = false
  f1 : w.frozen? ⟨k, 1, none⟩ = false
  f2 : w.frozen? ⟨k, 2, none⟩ = false
  f3 : w.frozen? ⟨k, 3, none⟩ = false
  f4 : w.frozen? ⟨k, 4, none⟩ = false

theorem KM.keep {bs : List Nat} {w w' : World} {k : Nat} {h : Value} {pc uc : Int} {pm um : ByteArray} (H : KM w k h pc pm uc um) (hf : Fr bs w w') (hk : k ∉ bs) : KM w' k h pc pm uc um := by
  have hl := block_lt_of_cell H.c0
  exact ⟨hf.cell hk H.c0, hf.cell hk H.c1, hf.cell hk H.c2, hf.cell hk H.c3, hf.cell hk H.c4, hf.cell hk H.c5, (hf.frozen hk hl).trans H.f0, (hf.frozen hk hl).trans H.f1, (hf.frozen hk hl).trans H.f2, (hf.frozen hk hl).trans H.f3, (hf.frozen hk hl).trans H.f4⟩
theorem KM.setH {w : World} {k : Nat} {h : Value} {pc uc : Int} {pm um : ByteArray} (H : KM w k h pc pm uc um) (v : Value) : KM (w.setCell ⟨k, 0, none⟩ v) k v pc pm uc um :=
  ⟨World.cell?_setCell_same w _ _ H.c0, (cset_ne _ _ _ _ _ _ (by omega)).trans H.c1, (cset_ne _ _ _ _ _ _ (by omega)).trans H.c2, (cset_ne _ _ _ _ _ _ (by omega)).trans H.c3, (cset_ne _ _ _ _ _ _ (by omega)).trans H.c4, (cset_ne _ _ _ _ _ _ (by omega)).trans H.c5,
    by simpa using H.f0, by simpa using H.f1, by simpa using H.f2, by simpa using H.f3, by simpa using H.f4⟩
theorem KM.setP {w : World} {k : Nat} {h : Value} {pc uc : Int} {pm um : ByteArray} (H : KM w k h pc pm uc um) (c : Int) (m : ByteArray) : KM ((w.setCell ⟨k, 1, none⟩ (.int .u64 c)).setCell ⟨k, 2, none⟩ (.string m)) k h c m uc um :=
  ⟨(cset_ne _ _ _ _ _ _ (by omega)).trans ((cset_ne _ _ _ _ _ _ (by omega)).trans H.c0), (cset_ne _ _ _ _ _ _ (by omega)).trans (World.cell?_setCell_same w _ _ H.c1), World.cell?_setCell_same _ _ _ ((cset_ne _ _ _ _ _ _ (by omega)).trans H.c2), (cset_ne _ _ _ _ _ _ (by omega)).trans ((cset_ne _ _ _ _ _ _ (by omega)).trans H.c3), (cset_ne _ _ _ _ _ _ (by omega)).trans ((cset_ne _ _ _ _ _ _ (by omega)).trans H.c4), (cset_ne _ _ _ _ _ _ (by omega)).trans ((cset_ne _ _ _ _ _ _ (by omega)).trans H.c5),
    by simpa using H.f0, by simpa using H.f1, by simpa using H.f2, by simpa using H.f3, by simpa using H.f4⟩
theorem KM.setU {w : World} {k : Nat} {h : Value} {pc uc : Int} {pm um : ByteArray} (H : KM w k h pc pm uc um) (c : Int) (m : ByteArray) : KM ((w.setCell ⟨k, 3, none⟩ (.int .u64 c)).setCell ⟨k, 4, none⟩ (.string m)) k h pc pm c m :=
  ⟨(cset_ne _ _ _ _ _ _ (by omega)).trans ((cset_ne _ _ _ _ _ _ (by omega)).trans H.c0), (cset_ne _ _ _ _ _ _ (by omega)).trans ((cset_ne _ _ _ _ _ _ (by omega)).trans H.c1), (cset_ne _ _ _ _ _ _ (by omega)).trans ((cset_ne _ _ _ _ _ _ (by omega)).trans H.c2), (cset_ne _ _ _ _ _ _ (by omega)).trans (World.cell?_setCell_same w _ _ H.c3), World.cell?_setCell_same _ _ _ ((cset_ne _ _ _ _ _ _ (by omega)).trans H.c4), (cset_ne _ _ _ _ _ _ (by omega)).trans ((cset_ne _ _ _ _ _ _ (by omega)).trans H.c5),
    by simpa using H.f0, by simpa using H.f1, by simpa using H.f2, by simpa using H.f3, by simpa using H.f4⟩

/-- A mark at block m: its ticket, what lies below it, its channel. -/
structure Mk (w : World) (m c : Nat) (s : Int) (tc : Int) (tm : ByteArray) (lc : Int) (lm : ByteArray) : Prop where
  c0 : w.cell? ⟨m, 0, none⟩ = some (.int .i64 s)
  c1 : w.cell? ⟨m, 1, none⟩ = some (.int .u64 tc)
  c2 : w.cell? ⟨m, 2, none⟩ = some (.string tm)
  c5 : w.cell? ⟨m, 5, none⟩ = some (.int .u64 lc)
  c6 : w.cell? ⟨m, 6, none⟩ = some (.string lm)
  c7 : w.cell? ⟨m, 7, none⟩ = some (.chan (some c))
  ch : w.heap[c]? = some (.chan 0 #[] false 0 0 false)
theorem Mk.keep {bs : List Nat} {w w' : World} {m c : Nat} {s tc lc : Int} {tm lm : ByteArray} (H : Mk w m c s tc tm lc lm) (hf : Fr bs w w') (hm : m ∉ bs) (hc : c ∉ bs) : Mk w' m c s tc tm lc lm :=
  ⟨hf.cell hm H.c0, hf.cell hm H.c1, hf.cell hm H.c2, hf.cell hm H.c5, hf.cell hm H.c6, hf.cell hm H.c7, (hf.block c (Array.getElem?_eq_some_iff.1 H.ch).1 hc).trans H.ch⟩

theorem Fr.drewN {bs : List Nat} (w : World) (n : Nat) : Fr bs w (w.drewN n) := ⟨rfl, rfl, rfl, Nat.le_refl _, fun _ _ _ => rfl⟩
theorem Fr.wide {bs cs : List Nat} {w w' : World} (h : Fr bs w w') (hs : ∀ b, b ∈ bs → b ∈ cs) : Fr cs w w' := ⟨h.os, h.tape, h.output, h.size, fun b hb hn => h.block b hb (fun e => hn (hs b e))⟩

/-- What Release leaves of the key's marks. -/
def RelOut (sm stored : Bool) (m : Nat) (bc : Int) (bm : ByteArray) (lc : Int) (lm : ByteArray) (pc : Int) (pm : ByteArray) (uc : Int) (um : ByteArray) (h : Value) (pc' : Int) (pm' : ByteArray) (uc' : Int) (um' : ByteArray) : Prop :=
  (sm = false ∧ h = .pointer (some ⟨m, 0, none⟩) ∧ pc' = pc ∧ pm' = pm ∧ uc' = uc ∧ um' = um) ∨
  (sm = true ∧ stored = false ∧ h = .pointer none ∧ pc' = lc ∧ pm' = lm ∧ uc' = uc ∧ um' = um) ∨
  (sm = true ∧ stored = true ∧ 0 < cmpV bc bm.data.toList uc um.data.toList ∧ h = .pointer none ∧ pc' = pc ∧ pm' = pm ∧ uc' = bc ∧ um' = bm) ∨
  (sm = true ∧ stored = true ∧ ¬ 0 < cmpV bc bm.data.toList uc um.data.toList ∧ h = .pointer none ∧ pc' = pc ∧ pm' = pm ∧ uc' = uc ∧ um' = um)

theorem take_km (k m c : Nat) (s tc lc pc uc : Int) (tm lm pm um : ByteArray) (w : World) (hK : KM w k (.pointer (some ⟨m, 0, none⟩)) pc pm uc um) (hm : Mk w m c s tc tm lc lm) :
    Calls Yba.prog 25 #[.pointer (some ⟨k, 0, none⟩), .pointer none] w fun e w' => e = .returned (.tuple #[]) ∧ KM w' k (.pointer none) pc pm uc um ∧ Fr [k, c] w w' := by
  have hck : c ≠ k := fun e => by have hh := hm.ch; subst e; have := hK.c0; simp [World.cell?, hh] at this
  refine (take_nil k m c _ hK.c0 hK.f0 hm.c7 hm.ch).mono ?_
  rintro e w6 ⟨rfl, rfl⟩
  exact ⟨rfl, (hK.keep (bs := [c]) (Fr.chan _ (by simp) _ _ _ _ _ _) (by simp; omega)).setH _, (Fr.chan _ (by simp) _ _ _ _ _ _).trans (Fr.set _ (by simp) _)⟩

theorem info111 : ∃ i z, Yba.prog.info? 111 = some i ∧ i.zero = some z ∧ i.size = 5 ∧ i.bytes ≤ 100 := by
  have h : (Yba.prog.info? 111).map (fun i => (i.zero.isSome, i.size, decide (i.bytes ≤ 100))) = some (true, 5, true) := by kernel_rfl
  obtain ⟨i, hi, hb⟩ := Option.map_eq_some_iff.1 h
  simp only [Prod.mk.injEq, decide_eq_true_eq] at hb
  obtain ⟨z, hz⟩ := Option.isSome_iff_exists.1 hb.1
  exact ⟨i, z, hi, hz, hb.2.1, hb.2.2⟩

theorem app_nil (N z8 : Nat) (v0 v1 v2 v3 v4 : Value) (W : World) (hz8 : W.heap.size = z8) (c0 : W.cell? ⟨N, 0, none⟩ = some v0) (c1 : W.cell? ⟨N, 1, none⟩ = some v1) (c2 : W.cell? ⟨N, 2, none⟩ = some v2) (c3 : W.cell? ⟨N, 3, none⟩ = some v3) (c4 : W.cell? ⟨N, 4, none⟩ = some v4) :
    ∃ cap w8, (∀ ty, (Builtin.append_ #[61, 61] ty #[.slice none 0 0, .slice (some ⟨N, 0, none⟩) 1 1]).run Yba.prog W = .ok (.slice (some ⟨z8, 0, none⟩) 1 cap) w8) ∧ Fr [] W w8 := by
  subst hz8
  obtain ⟨i, z, hi, hz, hs, hb⟩ := info111
  have hr := fun ty => run_append_nil (P := Yba.prog) (w := W) 61 ty 111 i z Yba.underlying61 hi hz ⟨N, 0, none⟩ 1 1 [v0, v1, v2, v3, v4] (by simp [hs]) (by
    intro j v hv
    match j with
    | 0 => simp at hv; subst hv; simpa [Addr.add] using c0
    | 1 => simp at hv; subst hv; simpa [Addr.add] using c1
    | 2 => simp at hv; subst hv; simpa [Addr.add] using c2
    | 3 => simp at hv; subst hv; simpa [Addr.add] using c3
    | 4 => simp at hv; subst hv; simpa [Addr.add] using c4
    | j + 5 => simp at hv) (by omega) (by omega) (by omega)
  exact ⟨_, _, hr, (Fr.drewN W 1).trans (Fr.alloc _ _)⟩

theorem method_elapsed (a : Addr) (w : World) : (method 492 24 (.pointer (some a)) "Elapsed").run Yba.prog w = .ok (103, .pointer (some a)) w := by kernel_rfl

theorem sR (R C : Nat) : ∀ b, b ∈ [R] → b ∈ [R, C] := by intro b; simp; omega
theorem sC (R C : Nat) : ∀ b, b ∈ [C] → b ∈ [R, C] := by intro b; simp; omega
theorem sRC (R C k c : Nat) : ∀ b, b ∈ [R, C] → b ∈ [R, C, k, c] := by intro b; simp; omega
theorem skc (R C k c : Nat) : ∀ b, b ∈ [k, c] → b ∈ [R, C, k, c] := by intro b; simp; omega
theorem s45 (R C k c L : Nat) : ∀ b, b ∈ [R, C, k, c] → b ∈ [R, C, k, c, L] := by intro b; simp; omega
theorem s46 (R C k c L M : Nat) : ∀ b, b ∈ [R, C, k, c, L] → b ∈ [R, C, k, c, L, M] := by intro b; simp; omega
theorem sL (R C k c L : Nat) : ∀ b, b ∈ [L] → b ∈ [R, C, k, c, L] := by intro b; simp; omega
theorem sM (R C k c L M : Nat) : ∀ b, b ∈ [M] → b ∈ [R, C, k, c, L, M] := by intro b; simp; omega
theorem sR6 (R C k c L M : Nat) : ∀ b, b ∈ [R] → b ∈ [R, C, k, c, L, M] := by intro b; simp; omega

set_option maxHeartbeats 3200000 in
theorem release_held (R K M L C k m c n nk nL : Nat) (D Dk DL : DataW Unit) (key : ByteArray) (since bc : Int) (bm : ByteArray) (now : Int) (s tc lc pc uc : Int) (tm lm pm um : ByteArray) (w : World) (hR : Rep w R K M L C 0 0 (.slice none 0 0)) (stored : Bool) (hkey : key.size ≤ maxLen)
    (hC0 : w.cell? ⟨C, 0, none⟩ = some (.int .i64 now)) (hC1 : w.cell? ⟨C, 1, none⟩ = some (.int .i64 0)) (fC1 : w.frozen? ⟨C, 1, none⟩ = false) (hRC : R ≠ C) (hRk : R ≠ k) (hkC : k ≠ C) (hmC : m ≠ C) (hmR : m ≠ R) (hmk : m ≠ k)
    (hM : w.ownsMap Yba.prog 9 ptrE M n D) (hD : D.atKey (.string key.data.toList) .nil = .lit (.int .i64 k)) (hK : KM w k (.pointer (some ⟨m, 0, none⟩)) pc pm uc um) (hm : Mk w m c s tc tm lc lm) (hLo : w.ownsMap Yba.prog 37 (plainElem Yba.prog 4) L nL DL) (hKo : w.ownsMap Yba.prog 9 ptrE K nk Dk) (hDk : ∀ l, Dk.atKey l .nil = .nil) (hKL : K ≠ L) (hML : M ≠ L) (hnL : nL < maxLen)
    (ws : (Lit.int .i64 since).wf = true) (wb : (Lit.int .u64 bc).wf = true) (hbm : bm.size ≤ maxLen) (sm : Bool) (hsm : (sm = true ∧ s = since ∧ tc = bc ∧ tm = bm) ∨ (sm = false ∧ s ≠ since)) :
    Calls Yba.prog 10 #[.pointer (some ⟨R, 0, none⟩), .iface 171 (.agg #[]), .string key, .agg #[.int .i64 since, .int .u64 bc, .string bm], .bool stored] w fun e w' => e = .returned .nilIface ∧
      ∃ h pc' pm' uc' um' lb cap, KM w' k h pc' pm' uc' um' ∧ RelOut sm stored m bc bm lc lm pc pm uc um h pc' pm' uc' um' ∧ Rep w' R K M L C 0 0 (.slice (some ⟨lb, 0, none⟩) 1 cap) ∧
        w'.ownsMap Yba.prog 37 (plainElem Yba.prog 4) L (nL + 1) (DL.put (relK key since bc bm) (.lit (.bool true))) ∧ Fr [R, C, k, c, L, M] w w' := by
  have hRl := block_lt_of_cell hR.c0
  have hCl := block_lt_of_cell hC0
  have hMR : M ≠ R := fun e => by obtain ⟨es, cl, hh, _⟩ := hM; subst e; have := hR.c0; simp [World.cell?, hh] at this
  have hMC : M ≠ C := fun e => by obtain ⟨es, cl, hh, _⟩ := hM; subst e; simp [World.cell?, hh] at hC0
  have hcR : c ≠ R := fun e => by have hh := hm.ch; subst e; have := hR.c0; simp [World.cell?, hh] at this
  have hcC : c ≠ C := fun e => by have hh := hm.ch; subst e; simp [World.cell?, hh] at hC0
  have mapc : ∀ {b x o : Nat} {v : Value} {kt : TypeId} {Rd : Value → Option (DataW Unit × List MemPlace)} {n : Nat} {D : DataW Unit}, w.ownsMap Yba.prog kt Rd x n D → w.cell? ⟨b, o, none⟩ = some v → x ≠ b := fun h hc e => by obtain ⟨es, cl, hh, _⟩ := h; subst e; simp [World.cell?, hh] at hc
  have maph : ∀ {b x : Nat} {kt : TypeId} {Rd : Value → Option (DataW Unit × List MemPlace)} {n : Nat} {D : DataW Unit}, w.ownsMap Yba.prog kt Rd x n D → w.heap[b]? = some (.chan 0 #[] false 0 0 false) → x ≠ b := fun h hc e => by obtain ⟨es, cl, hh, _⟩ := h; subst e; rw [hh] at hc; cases hc
  have q1 : L ≠ R := mapc hLo hR.c0
  have q2 : L ≠ C := mapc hLo hC0
  have q3 : L ≠ k := mapc hLo hK.c0
  have q4 : L ≠ c := maph hLo hm.ch
  have q5 : K ≠ R := mapc hKo hR.c0
  have q6 : K ≠ C := mapc hKo hC0
  have q7 : K ≠ k := mapc hKo hK.c0
  have q8 : K ≠ c := maph hKo hm.ch
  have q9 : M ≠ k := mapc hM hK.c0
  have q10 : M ≠ c := maph hM hm.ch
  clear mapc maph
  go_enter_defers Yba.func10, Yba.ntmps10
  go_wp2_with fail
  obtain ⟨T, hT⟩ : ∃ T, T = w.heap.size := ⟨_, rfl⟩
  obtain ⟨w1, hw1⟩ : ∃ w1, w1 = w.alloc (.cells #[.int .i64 since, .int .u64 bc, .string bm] 33) := ⟨_, rfl⟩
  rw [← hw1, ← hT]
  have f1 : Fr [R, C] w w1 := by rw [hw1]; exact Fr.alloc w _
  have hR1 : Rep w1 R K M L C 0 0 (.slice none 0 0) := hR.keep (bs := []) (by rw [hw1]; exact Fr.alloc w _) (by simp)
  have t0 : w1.cell? ⟨T, 0, none⟩ = some (.int .i64 since) := by rw [hw1, hT]; simp
  have t1 : w1.cell? ⟨T, 1, none⟩ = some (.int .u64 bc) := by rw [hw1, hT]; simp
  have t2 : w1.cell? ⟨T, 2, none⟩ = some (.string bm) := by rw [hw1, hT]; simp
  have hTR : T ≠ R := fun e => Nat.lt_irrefl _ (by rw [← e, hT] at hRl; exact hRl)
  have hTC : T ≠ C := fun e => Nat.lt_irrefl _ (by rw [← e, hT] at hCl; exact hCl)
  have d0 : w1.cell? ⟨C, 0, none⟩ = some (.int .i64 now) := Fr.cell (bs := []) (by rw [hw1]; exact Fr.alloc w _) (by simp) hC0
  have d1 : w1.cell? ⟨C, 1, none⟩ = some (.int .i64 0) := Fr.cell (bs := []) (by rw [hw1]; exact Fr.alloc w _) (by simp) hC1
  have e1 : w1.frozen? ⟨C, 1, none⟩ = false := (Fr.frozen (bs := []) (by rw [hw1]; exact Fr.alloc w _) (by simp) hCl).trans fC1
  have hkT : k ≠ T := by have : k < w.heap.size := block_lt_of_cell hK.c0; exact fun e => Nat.lt_irrefl _ (by rw [e, hT] at this; exact this)
  clear hw1 hT
  refine (wlock_free Yba.rwWLib R 0 _ _ w1 hR1.c0 hR1.c2 hR1.c3 hR1.c4 hR1.f0 hR1.f4).mono ?_
  rintro e w2 ⟨rfl, hw2⟩
  have hR2 : Rep w2 R K M L C 1 (-1073741824) (.slice none 0 0) := by rw [hw2]; exact (hR1.set0 1).set4 _
  have f12 : Fr [R] w1 w2 := by rw [hw2]; exact (Fr.set w1 (by simp) _).trans (Fr.set _ (by simp) _)
  have f2 : Fr [R, C] w w2 := f1.trans (f12.wide (sR R C))
  have d0' := f12.cell (by simp only [List.mem_cons, List.not_mem_nil, or_false, not_or]; (repeat' apply And.intro) <;> first | assumption | (apply Ne.symm; assumption)) d0
  have d1' := f12.cell (by simp only [List.mem_cons, List.not_mem_nil, or_false, not_or]; (repeat' apply And.intro) <;> first | assumption | (apply Ne.symm; assumption)) d1
  have e1' := (f12.frozen (b := C) (o := 1) (by simp only [List.mem_cons, List.not_mem_nil, or_false, not_or]; (repeat' apply And.intro) <;> first | assumption | (apply Ne.symm; assumption)) (block_lt_of_cell d0)).trans e1
  have t0' := f12.cell (by simp only [List.mem_cons, List.not_mem_nil, or_false, not_or]; (repeat' apply And.intro) <;> first | assumption | (apply Ne.symm; assumption)) t0
  have t1' := f12.cell (by simp only [List.mem_cons, List.not_mem_nil, or_false, not_or]; (repeat' apply And.intro) <;> first | assumption | (apply Ne.symm; assumption)) t1
  have t2' := f12.cell (by simp only [List.mem_cons, List.not_mem_nil, or_false, not_or]; (repeat' apply And.intro) <;> first | assumption | (apply Ne.symm; assumption)) t2
  clear hw2 f12 d0 d1 e1 t0 t1 t2 hR1 f1 hR
  have g14 := hR2.c14
  have hme := method_elapsed ⟨C, 0, none⟩
  go_wp2_with fail
  refine (elapsed_any C now 0 w2 d0' d1' e1').mono ?_
  rintro e w3 ⟨rfl, hw3⟩
  have f23 : Fr [C] w2 w3 := by rw [hw3]; exact Fr.set w2 (by simp) _
  have hR3 := hR2.keep f23 (by simp only [List.mem_cons, List.not_mem_nil, or_false, not_or]; (repeat' apply And.intro) <;> first | assumption | (apply Ne.symm; assumption))
  have f3 : Fr [R, C] w w3 := f2.trans (f23.wide (sC R C))
  have t0 := f23.cell (by simp only [List.mem_cons, List.not_mem_nil, or_false, not_or]; (repeat' apply And.intro) <;> first | assumption | (apply Ne.symm; assumption)) t0'
  have t1 := f23.cell (by simp only [List.mem_cons, List.not_mem_nil, or_false, not_or]; (repeat' apply And.intro) <;> first | assumption | (apply Ne.symm; assumption)) t1'
  have t2 := f23.cell (by simp only [List.mem_cons, List.not_mem_nil, or_false, not_or]; (repeat' apply And.intro) <;> first | assumption | (apply Ne.symm; assumption)) t2'
  have hC3 : w3.cell? ⟨C, 1, none⟩ = some (.int .i64 1) := by rw [hw3, show wrap64 (0 + 1) = 1 from by simp [wrap64]]; exact World.cell?_setCell_same w2 _ (.int .i64 1) d1'
  clear hw3 f23 d0' d1' e1' t0' t1' t2' hR2 f2 g14 hme
  go_wp2_with fail
  refine (forget_nil R now w3 hR3.c17).mono ?_
  rintro e w3' ⟨rfl, hw3⟩
  obtain rfl := hw3
  go_wp2_with fail
  refine (marks_old R M n k D key _ hkey hR3.c15 (f3.map (by simp only [List.mem_cons, List.not_mem_nil, or_false, not_or]; (repeat' apply And.intro) <;> first | assumption | (apply Ne.symm; assumption)) hM) hD).mono ?_
  rintro e w3' ⟨rfl, hw3⟩
  obtain rfl := hw3
  have hK3 := hK.keep f3 (by simp only [List.mem_cons, List.not_mem_nil, or_false, not_or]; (repeat' apply And.intro) <;> first | assumption | (apply Ne.symm; assumption))
  have hm3 := hm.keep f3 (by simp only [List.mem_cons, List.not_mem_nil, or_false, not_or]; (repeat' apply And.intro) <;> first | assumption | (apply Ne.symm; assumption)) (by simp only [List.mem_cons, List.not_mem_nil, or_false, not_or]; (repeat' apply And.intro) <;> first | assumption | (apply Ne.symm; assumption))
  clear hK hm
  have k0 := hK3.c0
  have m0 := hm3.c0
  have m1 := hm3.c1
  have m2 := hm3.c2
  go_upto_region 8 with fail
  go_cut [49] from 40 to 49 (fun t wx => t = .bool sm ∧ ∃ nq, wx = w3'.drewN nq)
  case first =>
    rcases hsm with ⟨hsm, hs1, hs2, hs3⟩ | ⟨hsm, hne⟩
    · subst hsm hs1 hs2 hs3
      go_quiet (fail)
      go_wp2
      go_meet
      exact ⟨rfl, _, rfl⟩
    · subst hsm
      have hb : (s == since) = false := beq_eq_false_iff_ne.2 hne
      go_quiet (fail)
      go_wp2
      go_meet
      exact ⟨rfl, _, rfl⟩
  case rest =>
    obtain ⟨rfl, nq, rfl⟩ := hcut
    obtain ⟨w4, hw4⟩ : ∃ w4, w4 = w3'.drewN nq := ⟨_, rfl⟩
    rw [← hw4]
    have f34 : Fr [] w3' w4 := by rw [hw4]; exact Fr.drewN _ _
    have hR4 := hR3.keep f34 (by simp)
    have hK4 := hK3.keep f34 (by simp)
    have hm4 := hm3.keep f34 (by simp) (by simp)
    have f4 : Fr [R, C] w w4 := f3.trans (f34.wide (by simp))
    have t0' := f34.cell (by simp) t0
    have t1' := f34.cell (by simp) t1
    have t2' := f34.cell (by simp) t2
    have hC4 := f34.cell (by simp) hC3
    clear hw4 f34 hR3 hK3 hm3 t0 t1 t2 hC3 f3 k0 m0 m1 m2
    have hck : c ≠ k := fun e => by have hh := hm4.ch; subst e; have := hK4.c0; simp [World.cell?, hh] at this
    have hcT : c ≠ T := fun e => by have hh := hm4.ch; subst e; simp [World.cell?, hh] at t0'
    have hcm : c ≠ m := fun e => by have hh := hm4.ch; subst e; have := hm4.c0; simp [World.cell?, hh] at this
    go_upto_if 49 with fail
    go_cut [] from 50 to 63 (fun wx => ∃ h pc' pm' uc' um', KM wx k h pc' pm' uc' um' ∧ RelOut sm stored m bc bm lc lm pc pm uc um h pc' pm' uc' um' ∧ Fr [k, c] w4 wx)
    case first =>
      have k0 := hK4.c0
      have k1 := hK4.c1
      have k2 := hK4.c2
      have k3 := hK4.c3
      have k4 := hK4.c4
      have kf1 := hK4.f1
      have kf2 := hK4.f2
      have m5 := hm4.c5
      have m6 := hm4.c6
      cases sm with
      | false =>
        go_wp2
        go_meet
        exact ⟨_, _, _, _, _, hK4, Or.inl ⟨rfl, rfl, rfl, rfl, rfl, rfl⟩, Fr.refl _ _⟩
      | true =>
        cases stored with
        | false =>
          have hKx := hK4.setP lc lm
          have hmx : Mk ((w4.setCell ⟨k, 1, none⟩ (.int .u64 lc)).setCell ⟨k, 2, none⟩ (.string lm)) m c s tc tm lc lm := hm4.keep (bs := [k]) ((Fr.set _ (by simp) _).trans (Fr.set _ (by simp) _)) (by simp only [List.mem_cons, List.not_mem_nil, or_false, not_or]; (repeat' apply And.intro) <;> first | assumption | (apply Ne.symm; assumption)) (by simp only [List.mem_cons, List.not_mem_nil, or_false, not_or]; (repeat' apply And.intro) <;> first | assumption | (apply Ne.symm; assumption))
          have fx : Fr [k, c] w4 ((w4.setCell ⟨k, 1, none⟩ (.int .u64 lc)).setCell ⟨k, 2, none⟩ (.string lm)) := (Fr.set _ (by simp) _).trans (Fr.set _ (by simp) _)
          go_wp2_with fail
          refine (take_km k m c s tc lc lc uc tm lm lm um _ hKx hmx).mono ?_
          rintro e w6 ⟨rfl, hKy, fy⟩
          go_wp2
          go_meet
          exact ⟨_, _, _, _, _, hKy, Or.inr (Or.inl ⟨rfl, rfl, rfl, rfl, rfl, rfl, rfl⟩), fx.trans fy⟩
        | true =>
          by_cases hc : 0 < cmpV bc bm.data.toList uc um.data.toList
          · go_wp2_with fail
            refine (unsettle_yes k bc uc bm um _ hc k3 k4 hK4.f3 hK4.f4).mono ?_
            rintro e w5 ⟨rfl, wx, hb, hw5⟩
            have hKx := ((hK4.keep (Fr.below (bs := []) hb) (by simp)).setU bc bm)
            rw [← hw5] at hKx
            have hmx : Mk w5 m c s tc tm lc lm := hm4.keep (bs := [k]) (by rw [hw5]; exact (Fr.below hb).trans ((Fr.set _ (by simp) _).trans (Fr.set _ (by simp) _))) (by simp only [List.mem_cons, List.not_mem_nil, or_false, not_or]; (repeat' apply And.intro) <;> first | assumption | (apply Ne.symm; assumption)) (by simp only [List.mem_cons, List.not_mem_nil, or_false, not_or]; (repeat' apply And.intro) <;> first | assumption | (apply Ne.symm; assumption))
            have fx : Fr [k, c] w4 w5 := by rw [hw5]; exact (Fr.below hb).trans ((Fr.set _ (by simp) _).trans (Fr.set _ (by simp) _))
            clear hw5
            go_wp2_with fail
            refine (take_km k m c s tc lc pc bc tm lm pm bm _ hKx hmx).mono ?_
            rintro e w6 ⟨rfl, hKy, fy⟩
            go_wp2
            go_meet
            exact ⟨_, _, _, _, _, hKy, Or.inr (Or.inr (Or.inl ⟨rfl, rfl, hc, rfl, rfl, rfl, rfl, rfl⟩)), fx.trans fy⟩
          · go_wp2_with fail
            refine (unsettle_no k bc uc bm um _ (Int.not_lt.2 hc) k3 k4).mono ?_
            rintro e w5 ⟨rfl, hb⟩
            have hKx := hK4.keep (Fr.below (bs := []) hb) (by simp)
            have hmx : Mk w5 m c s tc tm lc lm := hm4.keep (Fr.below (bs := []) hb) (by simp) (by simp)
            have fx : Fr [k, c] w4 w5 := Fr.below hb
            go_wp2_with fail
            refine (take_km k m c s tc lc pc uc tm lm pm um _ hKx hmx).mono ?_
            rintro e w6 ⟨rfl, hKy, fy⟩
            go_wp2
            go_meet
            exact ⟨_, _, _, _, _, hKy, Or.inr (Or.inr (Or.inr ⟨rfl, rfl, Int.not_lt.2 hc, rfl, rfl, rfl, rfl, rfl⟩)), fx.trans fy⟩
    case rest =>
      obtain ⟨h', pc', pm', uc', um', hK5, hout, f45⟩ := hcut
      have hR5 := hR4.keep f45 (by simp only [List.mem_cons, List.not_mem_nil, or_false, not_or]; (repeat' apply And.intro) <;> first | assumption | (apply Ne.symm; assumption))
      have t0 := f45.cell (by simp only [List.mem_cons, List.not_mem_nil, or_false, not_or]; (repeat' apply And.intro) <;> first | assumption | (apply Ne.symm; assumption)) t0'
      have t1 := f45.cell (by simp only [List.mem_cons, List.not_mem_nil, or_false, not_or]; (repeat' apply And.intro) <;> first | assumption | (apply Ne.symm; assumption)) t1'
      have t2 := f45.cell (by simp only [List.mem_cons, List.not_mem_nil, or_false, not_or]; (repeat' apply And.intro) <;> first | assumption | (apply Ne.symm; assumption)) t2'
      have f5 : Fr [R, C, k, c] w wc := (f4.wide (sRC R C k c)).trans (f45.wide (skc R C k c))
      clear hR4 hK4 hm4 t0' t1' t2' f4 f45 hsm
      have g18 := hR5.c18
      have lR : R < wc.heap.size := block_lt_of_cell g18
      have lT : T < wc.heap.size := block_lt_of_cell t0
      go_upto_region 13 with fail
      go_cut [14] from 64 to 73 (fun v wx => v = .pointer (some ⟨wc.heap.size, 0, none⟩) ∧ wx = (wc.alloc (.cells #[.string key, .int .i64 since, .int .u64 bc, .string bm, .int .i64 (wrap64 (now + 400000000))] 111)).drew)
      case first =>
        go_region
        go_wp2
        go_meet
        exact ⟨rfl, rfl⟩
      case rest =>
      obtain ⟨rfl, rfl⟩ := hcut
      obtain ⟨N, hN⟩ : ∃ N, N = wc.heap.size := ⟨_, rfl⟩
      obtain ⟨w6, hw6⟩ : ∃ w6, w6 = (wc.alloc (.cells #[.string key, .int .i64 since, .int .u64 bc, .string bm, .int .i64 (wrap64 (now + 400000000))] 111)).drew := ⟨_, rfl⟩
      rw [← hw6, ← hN]
      have f56 : Fr [] wc w6 := by rw [hw6]; exact (Fr.alloc _ _).drew
      have n0 : w6.cell? ⟨N, 0, none⟩ = some (.string key) := by rw [hw6, hN]; simp
      have n1 : w6.cell? ⟨N, 1, none⟩ = some (.int .i64 since) := by rw [hw6, hN]; simp
      have n2 : w6.cell? ⟨N, 2, none⟩ = some (.int .u64 bc) := by rw [hw6, hN]; simp
      have n3 : w6.cell? ⟨N, 3, none⟩ = some (.string bm) := by rw [hw6, hN]; simp
      have n4 : w6.cell? ⟨N, 4, none⟩ = some (.int .i64 (wrap64 (now + 400000000))) := by rw [hw6, hN]; simp
      have hR6 := hR5.keep f56 (by simp)
      have hK6 := hK5.keep f56 (by simp)
      have f6 : Fr [R, C, k, c] w w6 := f5.trans (f56.wide (by simp))
      have hL6 := f6.map (by simp only [List.mem_cons, List.not_mem_nil, or_false, not_or]; (repeat' apply And.intro) <;> first | assumption | (apply Ne.symm; assumption)) hLo
      clear hw6 hN t0 t1 t2 hR5 hK5 f5 f56 g18 lR lT
      have g16 := hR6.c16
      obtain ⟨w7, hup, hL7, hg7⟩ := (hL6.drew).update law37 Yba.underlying60 hnL (key37 key since bc bm hkey ws wb hbm) (plainElem_bool Yba.underlying4 true)
      have hLN : L ≠ N := fun e => by obtain ⟨es, cl, hh, _⟩ := hL6; subst e; simp [World.cell?, hh] at n0
      have lN : N < w6.heap.size := block_lt_of_cell n0
      have f67 : Fr [L] w6 w7 := (Fr.drewN w6 1).trans (Fr.grown hg7 (by simp))
      go_upto_region 14 with fail
      go_cut [] from 74 to 79 (fun wx => w7 = wx)
      case first =>
        go_region
        go_wp2
        go_meet
        exact rfl
      case rest =>
      obtain rfl := hcut
      clear hup hg7 g16 hL6
      have hR7 := hR6.keep f67 (by simp only [List.mem_cons, List.not_mem_nil, or_false, not_or]; (repeat' apply And.intro) <;> first | assumption | (apply Ne.symm; assumption))
      have hK7 := hK6.keep f67 (by simp only [List.mem_cons, List.not_mem_nil, or_false, not_or]; (repeat' apply And.intro) <;> first | assumption | (apply Ne.symm; assumption))
      have f7 : Fr [R, C, k, c, L] w w7 := (f6.wide (s45 R C k c L)).trans (f67.wide (sL R C k c L))
      have n0' := f67.cell (by simp only [List.mem_cons, List.not_mem_nil, or_false, not_or]; (repeat' apply And.intro) <;> first | assumption | (apply Ne.symm; assumption)) n0
      have n1' := f67.cell (by simp only [List.mem_cons, List.not_mem_nil, or_false, not_or]; (repeat' apply And.intro) <;> first | assumption | (apply Ne.symm; assumption)) n1
      have n2' := f67.cell (by simp only [List.mem_cons, List.not_mem_nil, or_false, not_or]; (repeat' apply And.intro) <;> first | assumption | (apply Ne.symm; assumption)) n2
      have n3' := f67.cell (by simp only [List.mem_cons, List.not_mem_nil, or_false, not_or]; (repeat' apply And.intro) <;> first | assumption | (apply Ne.symm; assumption)) n3
      have n4' := f67.cell (by simp only [List.mem_cons, List.not_mem_nil, or_false, not_or]; (repeat' apply And.intro) <;> first | assumption | (apply Ne.symm; assumption)) n4
      clear n0 n1 n2 n3 n4 f67 f6 hR6 hK6 lN
      have g17 := hR7.c17
      have lR : R < w7.heap.size := block_lt_of_cell g17
      have lN : N < w7.heap.size := block_lt_of_cell n0'
      have gf17 := hR7.f17
      have lR1 : R < w7.heap.size + 1 := Nat.lt_succ_of_lt lR
      have hbig : ¬ (281474976710656 < Builtin.nextslicecap 1 0 * Yba.t111.bytes) := by decide
      go_upto_region 15 with fail
      go_cut [] from 80 to 89 (fun wx => ∃ lb cap, wx = (((w7.setCell ⟨R, 17, none⟩ (.slice (some ⟨lb, 0, none⟩) 1 cap)).alloc (.cells #[.string key, .int .i64 since, .int .u64 bc, .string bm, .int .i64 (wrap64 (now + 400000000))] 111)).alloc (.cells (#[.string key, .int .i64 since, .int .u64 bc, .string bm, .int .i64 (wrap64 (now + 400000000))] ++ Builtin.zeroCells #[.string ⟨#[]⟩, .int .i64 0, .int .u64 0, .string ⟨#[]⟩, .int .i64 0] (cap - 1)) 111)).drew.drew)
      case first =>
        go_region
        go_wp2
        go_meet
        exact ⟨_, _, rfl⟩
      case rest =>
      obtain ⟨lb, cap, hw9'⟩ := hcut
      obtain ⟨w8, hw8⟩ : ∃ w8, w8 = w7.setCell ⟨R, 17, none⟩ (.slice (some ⟨lb, 0, none⟩) 1 cap) := ⟨_, rfl⟩
      obtain ⟨w9, hw9x⟩ : ∃ w9, w9 = wc := ⟨_, rfl⟩
      rw [← hw8] at hw9'
      rw [← hw9x] at hw9' ⊢
      have hw9 := hw9'
      clear hw9x hw9'
      have f89 : Fr [] w8 w9 := by rw [hw9]; exact (((Fr.alloc _ _).trans (Fr.alloc _ _)).drew).drew
      have hR9 : Rep w9 R K M L C 1 (-1073741824) (.slice (some ⟨lb, 0, none⟩) 1 cap) := Rep.keep (bs := []) (by rw [hw8]; exact hR7.set17 _) f89 (by simp)
      have f79 : Fr [R] w7 w9 := Fr.trans (by rw [hw8]; exact Fr.set _ (by simp) _) (f89.wide (by simp))
      have hK9 := hK7.keep f79 (by simp only [List.mem_cons, List.not_mem_nil, or_false, not_or]; (repeat' apply And.intro) <;> first | assumption | (apply Ne.symm; assumption))
      have hL9 := f79.map (by simp only [List.mem_cons, List.not_mem_nil, or_false, not_or]; (repeat' apply And.intro) <;> first | assumption | (apply Ne.symm; assumption)) hL7
      have f9 : Fr [R, C, k, c, L] w w9 := f7.trans (f79.wide (by intro b hb; rw [List.mem_singleton] at hb; rw [hb]; exact List.mem_cons_self))
      clear hw9 hw8 f89 gf17 g17 lR lR1 hbig lN n0' n1' n2' n3' n4' hR7 hK7 f7 f79 hL7
      have hKo9 := f9.map (by simp only [List.mem_cons, List.not_mem_nil, or_false, not_or]; (repeat' apply And.intro) <;> first | assumption | (apply Ne.symm; assumption)) hKo
      have hMo9 := f9.map (by simp only [List.mem_cons, List.not_mem_nil, or_false, not_or]; (repeat' apply And.intro) <;> first | assumption | (apply Ne.symm; assumption)) hM
      go_wp2_with fail
      refine leaves_cons (f := 23) (args := #[.pointer (some ⟨R, 0, none⟩), .string key, .pointer (some ⟨k, 0, none⟩)]) (by simp) (by simp [go_sem]) ?_
      have htidy : CallsD Yba.prog 23 #[.pointer (some ⟨R, 0, none⟩), .string key, .pointer (some ⟨k, 0, none⟩)] .returning w9 fun e u' w' => u' = .returning ∧ (e = .returned (.tuple #[]) ∧ Fr [M] w9 w') := by
        have hh : (h' = .pointer (some ⟨m, 0, none⟩)) ∨ h' = .pointer none := by
          rcases hout with h | h | h | h
          · exact Or.inl h.2.1
          · exact Or.inr h.2.2.1
          · exact Or.inr h.2.2.2.1
          · exact Or.inr h.2.2.2.1
        rcases hh with hh | hh
        · rw [hh] at hK9
          refine (tidy_held R k m key .returning w9 hK9.c0).mono ?_
          rintro e u' w' ⟨rfl, rfl, rfl⟩
          exact ⟨rfl, rfl, Fr.refl _ _⟩
        · rw [hh] at hK9
          refine (tidy_free R K M k n nk D Dk key pc' uc' pm' um' .returning w9 hkey hK9.c0 hK9.c1 hK9.c2 hK9.c3 hK9.c4 hK9.c5 hR9.c6 hR9.c15 hR9.c44 hKo9 hDk hMo9).mono ?_
          rintro e u' w' ⟨rfl, rfl, hg⟩
          exact ⟨rfl, rfl, Fr.grown hg (by simp)⟩
      refine htidy.mono ?_
      rintro e u' w10 ⟨rfl, rfl, f910⟩
      have hR10 := hR9.keep f910 (by simp only [List.mem_cons, List.not_mem_nil, or_false, not_or]; (repeat' apply And.intro) <;> first | assumption | (apply Ne.symm; assumption))
      have hK10 := hK9.keep f910 (by simp only [List.mem_cons, List.not_mem_nil, or_false, not_or]; (repeat' apply And.intro) <;> first | assumption | (apply Ne.symm; assumption))
      have hL10 := f910.map (by simp only [List.mem_cons, List.not_mem_nil, or_false, not_or]; (repeat' apply And.intro) <;> first | assumption | (apply Ne.symm; assumption)) hL9
      have f10 : Fr [R, C, k, c, L, M] w w10 := (f9.wide (s46 R C k c L M)).trans (f910.wide (sM R C k c L M))
      refine leaves_cons (f := 21) (args := #[.pointer (some ⟨R, 0, none⟩)]) (by simp [settle]) (by simp [go_sem]) ?_
      refine (wunlock_deferred Yba.rwWLib R 0 _ _ _ w10 hR10.c0 hR10.c2 hR10.c3 hR10.c4 hR10.f0 hR10.f4).mono ?_
      rintro e u' w11 ⟨rfl, rfl, hw11⟩
      have hR11 : Rep w11 R K M L C 0 0 (.slice (some ⟨lb, 0, none⟩) 1 cap) := by rw [hw11]; exact (hR10.set4 0).set0 0
      have f1011 : Fr [R] w10 w11 := by rw [hw11]; exact (Fr.set _ (by simp) _).trans (Fr.set _ (by simp) _)
      exact ⟨.nilIface, by simp [results, Yba.results10, go_sem], rfl, h', pc', pm', uc', um', lb, cap, hK10.keep f1011 (by simp only [List.mem_cons, List.not_mem_nil, or_false, not_or]; (repeat' apply And.intro) <;> first | assumption | (apply Ne.symm; assumption)), hout, hR11, f1011.map (by simp only [List.mem_cons, List.not_mem_nil, or_false, not_or]; (repeat' apply And.intro) <;> first | assumption | (apply Ne.symm; assumption)) hL10, f10.trans (f1011.wide (sR6 R C k c L M))⟩

end Go.Proofs.Ybulkaixg.Marks
