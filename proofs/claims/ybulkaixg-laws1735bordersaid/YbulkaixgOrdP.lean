/-
  The plain law of the order: eight bytes past what the keys share go with the byte order of the keys; a sorted row of places is a strictly ascending row of keys.
-/
import Derived.Sort.LotA
namespace Go.Proofs.Ybulkaixg.Ord
open Go.Sort
set_option linter.unusedVariables false
set_option linter.unusedSimpArgs false

/-- The byte at p, 0 past the end. -/
def byteAt (l : List UInt8) (p : Nat) : Nat := ((l[p]?).map UInt8.toNat).getD 0
/-- The t bytes from s on, as a big-endian number. -/
def nextN (l : List UInt8) (s : Nat) : Nat → Nat
  | 0 => 0
  | t + 1 => nextN l s t * 256 + byteAt l (s + t)

theorem byteAt_lt (l : List UInt8) (p : Nat) : byteAt l p < 256 := by
  unfold byteAt
  cases h : l[p]? with
  | none => simp
  | some x => simpa using x.toNat_lt
theorem nextN_lt (l : List UInt8) (s t : Nat) : nextN l s t < 256 ^ t := by
  induction t with
  | zero => simp [nextN]
  | succ t ih =>
    have h := byteAt_lt l (s + t)
    rw [nextN, Nat.pow_succ]
    omega
theorem nextN_head (x : UInt8) (l : List UInt8) (t : Nat) : nextN (x :: l) 0 (t + 1) = x.toNat * 256 ^ t + nextN l 0 t := by
  induction t with
  | zero => simp [nextN, byteAt]
  | succ t ih =>
    rw [nextN, ih]
    conv => rhs; rw [nextN]
    have e : byteAt (x :: l) (0 + (t + 1)) = byteAt l (0 + t) := by simp [byteAt]
    rw [e, Nat.pow_succ, Nat.add_mul, Nat.mul_assoc, Nat.add_assoc]
theorem nextN_nil (s t : Nat) : nextN [] s t = 0 := by
  induction t with
  | zero => rfl
  | succ t ih => simp [nextN, ih, byteAt]
theorem nextN_cons (x : UInt8) (l : List UInt8) (s t : Nat) : nextN (x :: l) (s + 1) t = nextN l s t := by
  induction t with
  | zero => rfl
  | succ t ih =>
    rw [nextN, nextN, ih]
    congr 1
    simp [byteAt, show s + 1 + t = (s + t) + 1 by omega]

theorem nextN_mono0 (t : Nat) : ∀ l m : List UInt8, l < m → nextN l 0 t ≤ nextN m 0 t := by
  induction t with
  | zero => intro l m _; exact Nat.le_refl _
  | succ t ih =>
    intro l m h
    cases l with
    | nil => rw [nextN_nil]; exact Nat.zero_le _
    | cons x l =>
      cases m with
      | nil => exact absurd h (by simp)
      | cons y m =>
        rw [nextN_head, nextN_head]
        rcases List.cons_lt_cons_iff.1 h with hxy | ⟨rfl, hlm⟩
        · have h1 := nextN_lt l 0 t
          have h2 : x.toNat < y.toNat := hxy
          have h3 : (x.toNat + 1) * 256 ^ t ≤ y.toNat * 256 ^ t := Nat.mul_le_mul_right _ h2
          rw [Nat.add_mul, Nat.one_mul] at h3
          omega
        · have := ih l m hlm
          omega

theorem nextN_mono (s : Nat) : ∀ (l m : List UInt8) (t : Nat), l < m → s ≤ l.length → s ≤ m.length → l.take s = m.take s → nextN l s t ≤ nextN m s t := by
  induction s with
  | zero => intro l m t h _ _ _; exact nextN_mono0 t l m h
  | succ s ih =>
    intro l m t h h1 h2 h3
    cases l with
    | nil => simp at h1
    | cons x l =>
      cases m with
      | nil => simp at h2
      | cons y m =>
        simp at h1 h2 h3
        obtain ⟨rfl, h3⟩ := h3
        rw [nextN_cons, nextN_cons]
        refine ih l m t ?_ h1 h2 h3
        rcases List.cons_lt_cons_iff.1 h with h | ⟨_, h⟩
        · exact absurd h (UInt8.lt_irrefl x)
        · exact h

theorem lt_trans' {a b c : List UInt8} (h : a < b) (k : b < c) : a < c := List.lt_trans h k
theorem lt_tri (a b : List UInt8) : a < b ∨ a = b ∨ b < a := by
  by_cases h : a < b
  · exact Or.inl h
  · by_cases k : b < a
    · exact Or.inr (Or.inr k)
    · exact Or.inr (Or.inl (List.le_antisymm (List.not_lt.1 k) (List.not_lt.1 h)))
theorem lt_irr (a : List UInt8) : ¬ a < a := List.lt_irrefl a

/-- byKey's Less. -/
def ltK (K : Nat → List UInt8) (p q : Nat × Nat) : Bool := if p.1 = q.1 then decide (K p.2 < K q.2) else decide (p.1 < q.1)

theorem ltK_swo (K : Nat → List UInt8) : SWO (ltK K) := by
  constructor
  · intro x
    simp [ltK, lt_irr]
  · intro x y z h1 h2
    unfold ltK at *
    by_cases e1 : x.1 = y.1 <;> by_cases e2 : y.1 = z.1
    · simp [e1, e2] at h1 h2 ⊢
      exact lt_trans' h1 h2
    · simp [e1, e2] at h1 h2 ⊢
      exact h2
    · have : ¬ x.1 = z.1 := by rw [← e2]; exact e1
      simp [e1, e2, this] at h1 h2 ⊢
      omega
    · simp [e1, e2] at h1 h2
      have : ¬ x.1 = z.1 := by omega
      simp [this]
      omega
  · intro x y z h1 h2
    unfold ltK at *
    by_cases e1 : x.1 = y.1 <;> by_cases e2 : y.1 = z.1
    · simp [e1, e2] at h1 h2 ⊢
      intro h
      rcases lt_tri (K x.2) (K y.2) with k | k | k
      · exact absurd k (List.not_lt.2 h1)
      · rw [k] at h; exact absurd h (List.not_lt.2 h2)
      · exact absurd (lt_trans' k h) (List.not_lt.2 h2)
    · have : ¬ x.1 = z.1 := by rw [e1]; exact e2
      simp [e1, e2, this] at h1 h2 ⊢
      omega
    · have : ¬ x.1 = z.1 := by rw [← e2]; exact e1
      simp [e1, e2, this] at h1 h2 ⊢
      omega
    · simp [e1, e2] at h1 h2
      have : ¬ x.1 = z.1 := by omega
      simp [this]
      omega

/-- The row before it is sorted. -/
def row0 (K : Nat → List UInt8) (s T m : Nat) : Array (Nat × Nat) := ((List.range m).map fun i => (nextN (K i) s T, i)).toArray

theorem row0_size (K : Nat → List UInt8) (s T m : Nat) : (row0 K s T m).size = m := by simp [row0]
theorem row0_get (K : Nat → List UInt8) (s T m i : Nat) (h : i < m) : (row0 K s T m)[i]! = (nextN (K i) s T, i) := by
  rw [getElem!_pos (row0 K s T m) i (by rw [row0_size]; exact h)]
  simp [row0]

/-- What the sorted row tells: τ i is the place of the i-th key. -/
theorem sorted_keys (K : Nat → List UInt8) (s T m : Nat) (hs : ∀ i, i < m → s ≤ (K i).length) (hp : ∀ i j, i < m → j < m → (K i).take s = (K j).take s) (hd : ∀ i j, i < m → j < m → K i = K j → i = j)
    (d : Array (Nat × Nat)) (hP : PermIn 0 m (row0 K s T m) d) (hS : SortedIn (ltK K) 0 m d) :
    d.size = m ∧ (∀ i, i < m → (d[i]!).2 < m) ∧ (∀ i j, i < m → j < m → (d[i]!).2 = (d[j]!).2 → i = j) ∧ (∀ k, k < m → ∃ i, i < m ∧ (d[i]!).2 = k) ∧ (∀ i j, i < j → j < m → K (d[i]!).2 < K (d[j]!).2) := by
  have hz0 : (row0 K s T m).size = m := by simp [row0]
  have hsz : d.size = m := hP.1.trans hz0
  have hperm : d.toList.Perm (row0 K s T m).toList := by
    have h := hP.2.2
    have e1 : d.extract 0 m = d := by rw [← hsz]; exact Array.extract_size
    have e2 : (row0 K s T m).extract 0 m = row0 K s T m := by
      generalize row0 K s T m = r at hz0 ⊢
      rw [← hz0]; exact Array.extract_size
    rwa [e1, e2] at h
  have hmap : (d.toList.map Prod.snd).Perm (List.range m) := by
    have h := hperm.map Prod.snd
    simpa [row0, Function.comp_def] using h
  have hnd : (d.toList.map Prod.snd).Nodup := hmap.nodup_iff.2 List.nodup_range
  have hgi : ∀ i, i < m → d[i]! = d.toList[i]! := by
    intro i hi
    rw [getElem!_pos d i (by omega), getElem!_pos d.toList i (by simp; omega)]
    simp
  have hg : ∀ i (hi : i < m), (d.toList.map Prod.snd)[i]? = some (d[i]!).2 := by
    intro i hi
    rw [List.getElem?_map, List.getElem?_eq_getElem (by simp; omega)]
    rw [getElem!_pos d i (by omega)]
    simp
  have hmem : ∀ i, i < m → ∃ k, k < m ∧ d[i]! = (nextN (K k) s T, k) := by
    intro i hi
    have h1 : d[i]! ∈ d.toList := by rw [getElem!_pos d i (by omega)]; simp
    have h2 := hperm.mem_iff.1 h1
    simp [row0] at h2
    obtain ⟨k, hk, e⟩ := h2
    exact ⟨k, hk, e.symm⟩
  refine ⟨hsz, ?_, ?_, ?_, ?_⟩
  · intro i hi
    obtain ⟨k, hk, e⟩ := hmem i hi
    rw [e]; exact hk
  · intro i j hi hj e
    have h1 := hg i hi
    have h2 := hg j hj
    rw [e, ← h2] at h1
    exact (List.getElem?_inj (by simp; omega) hnd).1 h1
  · intro k hk
    have h1 : k ∈ d.toList.map Prod.snd := hmap.mem_iff.2 (List.mem_range.2 hk)
    obtain ⟨i, hi, e⟩ := List.getElem_of_mem h1
    have hi' : i < m := by simpa [hsz] using hi
    have h2 := hg i hi'
    rw [List.getElem?_eq_getElem hi, e] at h2
    exact ⟨i, hi', (Option.some.inj h2).symm⟩
  · intro i j hij hj
    obtain ⟨p, hp1, ep⟩ := hmem i (by omega)
    obtain ⟨q, hq1, eq⟩ := hmem j hj
    have h := hS i j (Nat.zero_le _) hij hj
    rw [ep, eq] at h ⊢
    simp only [ltK] at h
    rcases lt_tri (K p) (K q) with k | k | k
    · exact k
    · exfalso
      have hpq := hd p q hp1 hq1 k
      have h1 := hg i (by omega)
      have h2 := hg j hj
      rw [ep] at h1
      rw [eq] at h2
      simp only [hpq] at h1
      have := (List.getElem?_inj (by simp; omega) hnd).1 (h1.trans h2.symm)
      omega
    · exfalso
      have hm := nextN_mono s (K q) (K p) T k (hs q hq1) (hs p hp1) (hp q p hq1 hp1)
      by_cases e : nextN (K q) s T = nextN (K p) s T
      · rw [if_pos e] at h
        simp at h
        exact absurd k (List.not_lt.2 h)
      · rw [if_neg e] at h
        simp at h
        omega

end Go.Proofs.Ybulkaixg.Ord
