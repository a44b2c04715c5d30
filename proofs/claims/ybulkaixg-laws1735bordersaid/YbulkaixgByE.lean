/-
  byKey is a value that sort.Sort can sort.
-/
import Derived.Test.YbulkaixgByK
import Derived.Test.YbulkaixgKp
namespace Go.Proofs.Ybulkaixg.Srt
open Go.RowKit Go.Sort Go.Proofs.Ybulkaixg.Ord
set_option linter.unusedVariables false
set_option linter.unusedSimpArgs false
set_option maxRecDepth 100000

/-- What byKey looks at, where the sort begins: the struct at bk, its keys at kb; the row of pointers at A, to the blocks hb i with the keys K i. -/
structure Keyd (w : World) (bk kb A m c : Nat) (hb : Nat → Nat) (K : Nat → ByteArray) : Prop where
  h0 : w.cell? ⟨bk, 0, none⟩ = some (.slice (some ⟨A, 0, none⟩) m c)
  h1 : w.cell? ⟨bk, 1, none⟩ = some (.slice (some ⟨kb, 0, none⟩) m m)
  row : ∀ i, i < m → w.cell? ⟨A, i, none⟩ = some (.pointer (some ⟨hb i, 0, none⟩))
  key : ∀ i, i < m → w.cell? ⟨hb i, 0, none⟩ = some (.string (K i))
  nb : bk ≠ kb
  na : ∀ i, i < m → A ≠ kb
  nh : ∀ i, i < m → hb i ≠ kb
  lk : kb < w.heap.size
  lm : m < 1099511627776

/-- The row of sort keys is d. -/
structure SK (w0 : World) (kb m : Nat) (d : Array (Nat × Nat)) (w : World) : Prop where
  size : d.size = m
  kp : Kp (fun b => b = kb) w0 w
  c1 : ∀ i, i < m → w.cell? ⟨kb, i * 2, none⟩ = some (.int .u64 ((d[i]!).1 : Int))
  c2 : ∀ i, i < m → w.cell? ⟨kb, i * 2 + 1, none⟩ = some (.int .i64 ((d[i]!).2 : Int))
  fz : ∀ o, w.frozen? ⟨kb, o, none⟩ = false
  at_ : ∀ i, i < m → (d[i]!).2 < m

theorem SK.keep {w0 : World} {kb m : Nat} {d : Array (Nat × Nat)} {w w' : World} (h : SK w0 kb m d w) (hk : kb < w0.heap.size) (ho : w'.os = w.os) (ht : w'.tape = w.tape) (hp : w'.output = w.output) (hs : w.heap.size ≤ w'.heap.size)
    (hb : ∀ b, b < w0.heap.size → w'.heap[b]? = w.heap[b]?) : SK w0 kb m d w' :=
  ⟨h.size, ⟨ho.trans h.kp.os, ht.trans h.kp.tape, hp.trans h.kp.output, Nat.le_trans h.kp.size hs, fun b hl hn => (hb b hl).trans (h.kp.block b hl hn)⟩,
    fun i hi => (World.cell?_of_block (hb kb hk)).trans (h.c1 i hi), fun i hi => (World.cell?_of_block (hb kb hk)).trans (h.c2 i hi), fun o => (World.frozen?_of_block (hb kb hk)).trans (h.fz o), h.at_⟩

theorem lt_eq (K : Nat → ByteArray) (a b : Nat × Nat) : (if ((a.1 : Int)) = (b.1 : Int) then Op.bytesLess (K a.2).toList (K b.2).toList else decide ((a.1 : Int) < (b.1 : Int))) = ltK (fun i => (K i).data.toList) a b := by
  unfold ltK
  rw [bytesLess_eq, ByteArray.toList_eq, ByteArray.toList_eq]
  by_cases h : a.1 = b.1
  · rw [if_pos h, if_pos (by omega)]
  · rw [if_neg h, if_neg (by omega)]
    congr 1
    exact propext (by omega)

theorem Keyd.env {w0 : World} {bk kb A m c : Nat} {hb : Nat → Nat} {K : Nat → ByteArray} (h : Keyd w0 bk kb A m c hb K) :
    Env m w0.heap.size (.pointer (some ⟨bk, 0, none⟩)) (ltK fun i => (K i).data.toList) (SK w0 kb m) where
  swo := ltK_swo _
  small := h.lm
  mN := fun w => by kernel_rfl
  mL := fun w => by kernel_rfl
  mS := fun w => by kernel_rfl
  size := fun d w s => s.size
  top := fun d w s => s.kp.size
  keep := fun d w w' s ho ht hp hs hb => s.keep h.lk ho ht hp hs hb
  len := fun d w s => (len_raw bk kb m w (s.kp.cell h.nb h.h1)).mono (by rintro e w' ⟨rfl, rfl⟩; exact ⟨rfl, s⟩)
  less := fun d w s i j hi hj => by
    have pi := s.at_ i hi
    have pj := s.at_ j hj
    refine (less_raw bk kb A m c i j (d[i]!).2 (d[j]!).2 (hb (d[i]!).2) (hb (d[j]!).2) _ _ (K (d[i]!).2) (K (d[j]!).2) w (s.kp.cell h.nb h.h0) (s.kp.cell h.nb h.h1) hi hj h.lm (s.c1 i hi) (s.c2 i hi) (s.c1 j hj) (s.c2 j hj) pi pj
      (s.kp.cell (h.na _ pi) (h.row _ pi)) (s.kp.cell (h.na _ pj) (h.row _ pj)) (s.kp.cell (h.nh _ pi) (h.key _ pi)) (s.kp.cell (h.nh _ pj) (h.key _ pj))).mono ?_
    rintro e w' ⟨rfl, B⟩
    refine ⟨by rw [lt_eq K], s.keep h.lk B.os B.tape B.output B.size (fun b hb => B.block b (Nat.lt_of_lt_of_le hb s.kp.size)), ⟨B.size, fun b _ hb => B.block b hb⟩⟩
  swap := fun d w s i j hi hj => by
    have hsz := s.size
    by_cases e : i = j
    · subst e
      refine (swap_eq bk kb m i _ _ w (s.kp.cell h.nb h.h1) hi h.lm (s.c1 i hi) (s.c2 i hi) s.fz).mono ?_
      rintro e w' ⟨rfl, rfl⟩
      have hsw : ∀ k, k < m → (swp d i i)[k]! = d[k]! := fun k hk => by
        by_cases e : k = i
        · subst e; exact swp_right d k k (by omega)
        · exact swp_other d i i k e e
      refine ⟨rfl, ⟨(size_swp d i i).trans hsz, ?_, ?_, ?_, ?_, ?_⟩, ?_⟩
      · exact ((((s.kp.set (Or.inl rfl) _).set (Or.inl rfl) _).set (Or.inl rfl) _).set (Or.inl rfl) _).drew
      · intro k hk
        rw [hsw k hk]
        rw [World.cell?_drew, cset_ne _ _ _ _ _ _ (by omega)]
        by_cases e : k = i
        · subst e
          exact cset_eq _ _ _ _ _ (by rw [cset_ne _ _ _ _ _ _ (by omega)]; exact cset_eq _ _ _ _ _ (s.c1 k hk))
        · rw [cset_ne _ _ _ _ _ _ (by omega), cset_ne _ _ _ _ _ _ (by omega), cset_ne _ _ _ _ _ _ (by omega)]
          exact s.c1 k hk
      · intro k hk
        rw [hsw k hk, World.cell?_drew]
        by_cases e : k = i
        · subst e
          exact cset_eq _ _ _ _ _ (by rw [cset_ne _ _ _ _ _ _ (by omega)]; exact cset_eq _ _ _ _ _ (by rw [cset_ne _ _ _ _ _ _ (by omega)]; exact s.c2 k hk))
        · rw [cset_ne _ _ _ _ _ _ (by omega), cset_ne _ _ _ _ _ _ (by omega), cset_ne _ _ _ _ _ _ (by omega), cset_ne _ _ _ _ _ _ (by omega)]
          exact s.c2 k hk
      · intro o
        simpa using s.fz o
      · intro k hk
        rw [hsw k hk]
        exact s.at_ k hk
      · have hl := h.lk
        refine ⟨by simp, fun b h1 h2 => ?_⟩
        have hz := ((((Kp.refl (fun b => b = kb) w).set (a := ⟨kb, i * 2, none⟩) (Or.inl rfl) (.int .u64 (d[i]!).1)).set (a := ⟨kb, i * 2 + 1, none⟩) (Or.inl rfl) (.int .i64 (d[i]!).2)).set (a := ⟨kb, i * 2, none⟩) (Or.inl rfl) (.int .u64 (d[i]!).1)).set (a := ⟨kb, i * 2 + 1, none⟩) (Or.inl rfl) (.int .i64 (d[i]!).2)
        exact hz.block b h2 (by omega)
    · refine (swap_ne bk kb m i j _ _ _ _ w (s.kp.cell h.nb h.h1) hi hj h.lm (s.c1 i hi) (s.c2 i hi) (s.c1 j hj) (s.c2 j hj) s.fz e).mono ?_
      rintro e' w' ⟨rfl, rfl⟩
      refine ⟨rfl, ⟨(size_swp d i j).trans hsz, ?_, ?_, ?_, ?_, ?_⟩, ?_⟩
      · exact ((((s.kp.set (Or.inl rfl) _).set (Or.inl rfl) _).set (Or.inl rfl) _).set (Or.inl rfl) _).drew
      · intro k hk
        rw [World.cell?_drew, cset_ne _ _ _ _ _ _ (by omega)]
        by_cases ej : k = j
        · subst ej
          rw [swp_right d i k (by omega)]
          exact cset_eq _ _ _ _ _ (by rw [cset_ne _ _ _ _ _ _ (by omega), cset_ne _ _ _ _ _ _ (by omega)]; exact s.c1 k hk)
        · rw [cset_ne _ _ _ _ _ _ (by omega), cset_ne _ _ _ _ _ _ (by omega)]
          by_cases ei : k = i
          · subst ei
            rw [swp_left d k j (by omega) ej]
            exact cset_eq _ _ _ _ _ (s.c1 k hk)
          · rw [cset_ne _ _ _ _ _ _ (by omega), swp_other d i j k ei ej]
            exact s.c1 k hk
      · intro k hk
        rw [World.cell?_drew]
        by_cases ej : k = j
        · subst ej
          rw [swp_right d i k (by omega)]
          exact cset_eq _ _ _ _ _ (by rw [cset_ne _ _ _ _ _ _ (by omega), cset_ne _ _ _ _ _ _ (by omega), cset_ne _ _ _ _ _ _ (by omega)]; exact s.c2 k hk)
        · rw [cset_ne _ _ _ _ _ _ (by omega), cset_ne _ _ _ _ _ _ (by omega)]
          by_cases ei : k = i
          · subst ei
            rw [swp_left d k j (by omega) ej]
            exact cset_eq _ _ _ _ _ (by rw [cset_ne _ _ _ _ _ _ (by omega)]; exact s.c2 k hk)
          · rw [cset_ne _ _ _ _ _ _ (by omega), cset_ne _ _ _ _ _ _ (by omega), swp_other d i j k ei ej]
            exact s.c2 k hk
      · intro o
        simpa using s.fz o
      · intro k hk
        by_cases ej : k = j
        · subst ej; rw [swp_right d i k (by omega)]; exact s.at_ i hi
        · by_cases ei : k = i
          · subst ei; rw [swp_left d k j (by omega) ej]; exact s.at_ j hj
          · rw [swp_other d i j k ei ej]; exact s.at_ k hk
      · have hl := h.lk
        refine ⟨by simp, fun b h1 h2 => ?_⟩
        have hz := ((((Kp.refl (fun b => b = kb) w).set (a := ⟨kb, i * 2, none⟩) (Or.inl rfl) (.int .u64 (d[j]!).1)).set (a := ⟨kb, i * 2 + 1, none⟩) (Or.inl rfl) (.int .i64 (d[j]!).2)).set (a := ⟨kb, j * 2, none⟩) (Or.inl rfl) (.int .u64 (d[i]!).1)).set (a := ⟨kb, j * 2 + 1, none⟩) (Or.inl rfl) (.int .i64 (d[i]!).2)
        exact hz.block b h2 (by omega)

end Go.Proofs.Ybulkaixg.Srt
