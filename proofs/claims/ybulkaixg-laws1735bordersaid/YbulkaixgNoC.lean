/-
  newOrder: the third loop's state, and what newOrder leaves.
-/
import Derived.Test.YbulkaixgNoB
namespace Go.Proofs.Ybulkaixg.Ord
open Go.RowKit
set_option linter.unusedVariables false
set_option linter.unusedSimpArgs false
set_option maxRecDepth 100000

/-- The third loop: t held are placed, u of them are counted. -/
structure R3 (w wr : World) (A m : Nat) (hb : Nat → Nat) (K : Nat → ByteArray) (tt sm : Nat → Int) (rb xb yb zb ob pb NB gb : Nat) (pos : Nat → Nat) (xv yv : Nat → Value) (tm : Nat → Nat) (t u : Nat) : Prop where
  kp : Kp (fun b => ∃ i, i < m ∧ b = hb i) w wr
  mem : Ob wr rb xb yb zb ob pb m NB xv yv tm
  pl : ∀ k, k < m → wr.cell? ⟨gb, k, none⟩ = some (.int .i64 (pos k : Int))
  hs : ∀ i, i < m → HB wr (hb i) (K i) (tt i) (sm i)
  row : ∀ i, i < m → wr.cell? ⟨A, i, none⟩ = some (.pointer (some ⟨hb i, 0, none⟩))
  dx : ∀ k, k < t → xv (pos k) = .pointer (some ⟨hb k, 0, none⟩)
  dy : ∀ k, k < t → yv (pos k) = .int .u64 (sm k)
  di : ∀ k, k < t → wr.cell? ⟨hb k, 18, none⟩ = some (.pointer (some ⟨pb + pos k / 256, 0, none⟩))
  dt : ∀ j, j < NB → tm j = cnt (fun k => pos k / 256 = j ∧ tt k ≠ 0) u
  l0 : w.heap.size ≤ rb
  l1 : pb + NB ≤ gb
  la : ∀ i, i < m → A < w.heap.size ∧ A ≠ hb i ∧ hb i < w.heap.size
  pm : ∀ k, k < m → pos k < m
  pn : ∀ k, k < m → pos k / 256 < NB
  pi : ∀ k l, k < m → l < m → pos k = pos l → k = l
  hi : ∀ k l, k < m → l < m → hb k = hb l → k = l

variable {w wr : World} {A m : Nat} {hb : Nat → Nat} {K : Nat → ByteArray} {tt sm : Nat → Int} {rb xb yb zb ob pb NB gb : Nat} {pos : Nat → Nat} {xv yv : Nat → Value} {tm : Nat → Nat} {t u : Nat}

theorem R3.place (h : R3 w wr A m hb K tt sm rb xb yb zb ob pb NB gb pos xv yv tm t u) (ht : t < m) :
    R3 w (((wr.setCell ⟨xb, pos t, none⟩ (.pointer (some ⟨hb t, 0, none⟩))).setCell ⟨yb, pos t, none⟩ (.int .u64 (sm t))).setCell ⟨hb t, 18, none⟩ (.pointer (some ⟨pb + pos t / 256, 0, none⟩))) A m hb K tt sm rb xb yb zb ob pb NB gb pos
      (updV xv (pos t) (.pointer (some ⟨hb t, 0, none⟩))) (updV yv (pos t) (.int .u64 (sm t))) tm (t + 1) u := by
  obtain ⟨kp, mem, pl, hs, row, dx, dy, di, dt, l0, l1, la, pm, pn, pi, hi⟩ := h
  have o1 := mem.o1; have o2 := mem.o2; have o3 := mem.o3; have o4 := mem.o4; have o5 := mem.o5
  have lt := (la t ht).2.2
  have old : ∀ b k, b ≠ xb → b ≠ yb → ¬ (b = hb t ∧ k = 18) → (((wr.setCell ⟨xb, pos t, none⟩ (.pointer (some ⟨hb t, 0, none⟩))).setCell ⟨yb, pos t, none⟩ (.int .u64 (sm t))).setCell ⟨hb t, 18, none⟩ (.pointer (some ⟨pb + pos t / 256, 0, none⟩))).cell? ⟨b, k, none⟩ = wr.cell? ⟨b, k, none⟩ := fun b k h1 h2 h3 => by
    rw [cset_ne _ _ _ _ _ _ h3, cset_ne _ _ _ _ _ _ (by omega), cset_ne _ _ _ _ _ _ (by omega)]
  refine ⟨?_, ?_, ?_, ?_, ?_, ?_, ?_, ?_, dt, l0, l1, la, pm, pn, pi, hi⟩
  · exact ((kp.set (Or.inr (show w.heap.size ≤ xb by omega)) _).set (Or.inr (show w.heap.size ≤ yb by omega)) _).set (Or.inl ⟨t, ht, rfl⟩) _
  · exact Ob.keep ((mem.setX (pm t ht) _).setY (pm t ht) _) ((Kp.refl (fun b => b = hb t) _).set (Or.inl rfl) _) (fun b h1 h2 => by omega)
  · intro k hk; rw [old _ _ (by omega) (by omega) (by omega)]; exact pl k hk
  · intro i hi'
    have li := (la i hi').2.2
    exact HB.set (((hs i hi').keep ((Kp.refl (fun b => b = xb) _).set (Or.inl rfl) _) (by omega)).keep ((Kp.refl (fun b => b = yb) _).set (Or.inl rfl) _) (by omega)) _ _
  · intro i hi'
    have l := la i hi'
    have l2 := la t ht
    rw [old _ _ (by omega) (by omega) (by omega)]; exact row i hi'
  · intro k hk
    by_cases e : k = t
    · subst e; exact updV_same _ _ _
    · rw [updV_ne _ (fun e2 => e (pi k t (by omega) ht e2))]; exact dx k (by omega)
  · intro k hk
    by_cases e : k = t
    · subst e; exact updV_same _ _ _
    · rw [updV_ne _ (fun e2 => e (pi k t (by omega) ht e2))]; exact dy k (by omega)
  · intro k hk
    by_cases e : k = t
    · subst e
      obtain ⟨v, hv⟩ := (hs k ht).inn
      exact cset_eq _ _ _ _ v (by rw [cset_ne _ _ _ _ _ _ (by omega), cset_ne _ _ _ _ _ _ (by omega)]; exact hv)
    · have lk := (la k (by omega)).2.2
      rw [old _ _ (by omega) (by omega) (fun e2 => e (hi k t (by omega) ht e2.1))]; exact di k (by omega)

theorem R3.count (h : R3 w wr A m hb K tt sm rb xb yb zb ob pb NB gb pos xv yv tm (t + 1) t) (ht : t < m) {J d : Nat} (hJ : pos t / 256 = J) (hd : (if tt t = 0 then 0 else 1) = d) (Z : Array Value) (T : TypeId) :
    R3 w (((wr.setCell ⟨pb + J, 2, none⟩ (.int .i64 ((tm J : Int) + (d : Int)))).alloc (.cells Z T)).drew) A m hb K tt sm rb xb yb zb ob pb NB gb pos xv yv (upd tm J (tm J + d)) (t + 1) (t + 1) := by
  obtain ⟨kp, mem, pl, hs, row, dx, dy, di, dt, l0, l1, la, pm, pn, pi, hi⟩ := h
  have o1 := mem.o1; have o2 := mem.o2; have o3 := mem.o3; have o4 := mem.o4; have o5 := mem.o5
  have hn : J < NB := by rw [← hJ]; exact pn t ht
  have top := mem.top
  have ec : ((tm J : Int) + (d : Int)) = ((tm J + d : Nat) : Int) := by omega
  rw [ec]
  have k1 : Kp (fun b => b = pb + J) wr (((wr.setCell ⟨pb + J, 2, none⟩ (.int .i64 ((tm J + d : Nat) : Int))).alloc (.cells Z T)).drew) := (((Kp.refl (fun b => b = pb + J) wr).set (Or.inl rfl) _).alloc _).drew
  refine ⟨?_, ?_, ?_, ?_, ?_, dx, dy, ?_, ?_, l0, l1, la, pm, pn, pi, hi⟩
  · exact ((kp.set (Or.inr (show w.heap.size ≤ pb + J by omega)) _).alloc _).drew
  · exact (mem.setT hn (tm J + d)).keep ((Kp.refl (fun _ => False) _).alloc (.cells Z T)).drew (fun _ _ _ => id)
  · intro k hk; exact k1.cell (show ¬ gb = pb + J by omega) (pl k hk)
  · intro i hi'
    have li := (la i hi').2.2
    exact (hs i hi').keep k1 (show ¬ hb i = pb + J by omega)
  · intro i hi'
    have li := (la i hi').1
    exact k1.cell (show ¬ A = pb + J by omega) (row i hi')
  · intro k hk
    have lk := (la k (by omega)).2.2
    exact k1.cell (show ¬ hb k = pb + J by omega) (di k hk)
  · intro j hj
    rw [cnt]
    by_cases e : j = J
    · subst e
      rw [upd_same, dt _ hj, ← hd]
      congr 1
      by_cases h0 : tt t = 0 <;> simp [h0, hJ]
    · rw [upd_ne _ e, dt j hj]
      have : ¬ (pos t / 256 = j ∧ tt t ≠ 0) := fun h => e (h.1.symm.trans hJ)
      rw [if_neg this]
      rfl

/-- What newOrder leaves. -/
structure Odr (w w' : World) (m : Nat) (hb : Nat → Nat) (K : Nat → ByteArray) (tt sm : Nat → Int) (xb yb zb pb NB : Nat) (τ : Nat → Nat) : Prop where
  kp : Kp (fun b => ∃ i, i < m ∧ b = hb i) w w'
  lx : w.heap.size ≤ xb
  ly : w.heap.size ≤ yb
  lz : w.heap.size ≤ zb
  lp : w.heap.size ≤ pb
  x : ∀ i, i < m → w'.cell? ⟨xb, i, none⟩ = some (.pointer (some ⟨hb (τ i), 0, none⟩))
  y : ∀ i, i < m → w'.cell? ⟨yb, i, none⟩ = some (.int .u64 (sm (τ i)))
  z : ∀ j, j < NB → w'.cell? ⟨zb, j, none⟩ = some (.pointer (some ⟨pb + j, 0, none⟩))
  b0 : ∀ j, j < NB → w'.cell? ⟨pb + j, 0, none⟩ = some (.slice (some ⟨xb, j * 256, none⟩) (blen m j) (blen m j))
  b1 : ∀ j, j < NB → w'.cell? ⟨pb + j, 1, none⟩ = some (.slice (some ⟨yb, j * 256, none⟩) (blen m j) (blen m j))
  b2 : ∀ j, j < NB → w'.cell? ⟨pb + j, 2, none⟩ = some (.int .i64 (cnt (fun k => tt (τ (j * 256 + k)) ≠ 0) (blen m j) : Nat))
  hs : ∀ i, i < m → HB w' (hb i) (K i) (tt i) (sm i)
  inn : ∀ i, i < m → w'.cell? ⟨hb (τ i), 18, none⟩ = some (.pointer (some ⟨pb + i / 256, 0, none⟩))
  lt : ∀ i, i < m → τ i < m
  inj : ∀ i j, i < m → j < m → τ i = τ j → i = j
  sur : ∀ k, k < m → ∃ i, i < m ∧ τ i = k
  asc : ∀ i j, i < j → j < m → (K (τ i)).data.toList < (K (τ j)).data.toList

theorem R3.odr {τ : Nat → Nat} (h : R3 w wr A m hb K tt sm rb xb yb zb ob pb NB gb pos xv yv tm m m) (hlt : ∀ i, i < m → τ i < m) (hinj : ∀ i j, i < m → j < m → τ i = τ j → i = j) (hsur : ∀ k, k < m → ∃ i, i < m ∧ τ i = k)
    (hasc : ∀ i j, i < j → j < m → (K (τ i)).data.toList < (K (τ j)).data.toList) (hp1 : ∀ i, i < m → pos (τ i) = i) {w' : World} (hk : Kp (fun b => b = rb) wr w') : Odr w w' m hb K tt sm xb yb zb pb NB τ := by
  obtain ⟨kp, mem, pl, hs, row, dx, dy, di, dt, l0, l1, la, pm, pn, pi, hi⟩ := h
  have o1 := mem.o1; have o2 := mem.o2; have o3 := mem.o3; have o4 := mem.o4; have o5 := mem.o5
  refine ⟨?_, by omega, by omega, by omega, by omega, ?_, ?_, ?_, ?_, ?_, ?_, ?_, ?_, hlt, hinj, hsur, hasc⟩
  · exact kp.trans' hk fun b hb e => by omega
  · intro i hi'
    refine hk.cell (show ¬ xb = rb by omega) ?_
    rw [mem.x i hi', ← dx (τ i) (hlt i hi'), hp1 i hi']
  · intro i hi'
    refine hk.cell (show ¬ yb = rb by omega) ?_
    rw [mem.y i hi', ← dy (τ i) (hlt i hi'), hp1 i hi']
  · intro j hj; exact hk.cell (show ¬ zb = rb by omega) (mem.z j hj)
  · intro j hj; exact hk.cell (show ¬ pb + j = rb by omega) (mem.b0 j hj)
  · intro j hj; exact hk.cell (show ¬ pb + j = rb by omega) (mem.b1 j hj)
  · intro j hj
    refine hk.cell (show ¬ pb + j = rb by omega) ?_
    rw [mem.b2 j hj, dt j hj]
    have e1 := cnt_perm (fun k => pos k / 256 = j ∧ tt k ≠ 0) τ m hlt hinj hsur
    have e2 := cnt_congr (fun i => pos (τ i) / 256 = j ∧ tt (τ i) ≠ 0) (fun i => i / 256 = j ∧ tt (τ i) ≠ 0) m (fun i hi' => by rw [hp1 i hi'])
    have e3 := cnt_block (fun i => tt (τ i) ≠ 0) j m
    rw [e1, e2, e3]
    rfl
  · intro i hi'
    have := (la i hi').2.2
    exact (hs i hi').keep hk (show ¬ hb i = rb by omega)
  · intro i hi'
    have := (la (τ i) (hlt i hi')).2.2
    refine hk.cell (show ¬ hb (τ i) = rb by omega) ?_
    rw [di (τ i) (hlt i hi'), hp1 i hi']

end Go.Proofs.Ybulkaixg.Ord
