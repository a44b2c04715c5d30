/-
  (*loader).order (16).
-/
import Derived.Test.YbulkaixgNoD
import Derived.Test.YbulkaixgPt
import Derived.Test.YbulkaixgMaps
import Derived.Deep.RegionWith
namespace Go.Proofs.Ybulkaixg.Ord
open Go.RowKit Go.Maps Go.WideMaps Mp
set_option linter.unusedVariables false
set_option linter.unusedSimpArgs false
set_option maxRecDepth 100000

theorem Kp.map {P : Nat → Prop} {w w' : World} (h : Kp P w w') {H : Type} {kt : TypeId} {Rd : Value → Option (DataW H × List MemPlace)} {b n : Nat} {D : DataW H} (hb : ¬ P b) (hm : w.ownsMap Yba.prog kt Rd b n D) : w'.ownsMap Yba.prog kt Rd b n D := by
  have hl := hm.lt
  obtain ⟨es, clock, hh, F, hs, hD⟩ := hm
  exact ⟨es, clock, (h.block b hl hb).trans hh, F, hs, hD⟩

/-- What an order holds, cell by cell. -/
structure Od (w' : World) (L m : Nat) (hb : Nat → Nat) (K : Nat → ByteArray) (tt sm : Nat → Int) (xb yb zb pb NB : Nat) (τ : Nat → Nat) : Prop where
  lx : L ≤ xb
  ly : L ≤ yb
  lz : L ≤ zb
  lp : L ≤ pb
  x : ∀ i, i < m → w'.cell? ⟨xb, i, none⟩ = some (.pointer (some ⟨hb (τ i), 0, none⟩))
  y : ∀ i, i < m → w'.cell? ⟨yb, i, none⟩ = some (.int .u64 (sm (τ i)))
  z : ∀ j, j < NB → w'.cell? ⟨zb, j, none⟩ = some (.pointer (some ⟨pb + j, 0, none⟩))
  b0 : ∀ j, j < NB → w'.cell? ⟨pb + j, 0, none⟩ = some (.slice (some ⟨xb, j * 256, none⟩) (blen m j) (blen m j))
  b1 : ∀ j, j < NB → w'.cell? ⟨pb + j, 1, none⟩ = some (.slice (some ⟨yb, j * 256, none⟩) (blen m j) (blen m j))
  b2 : ∀ j, j < NB → w'.cell? ⟨pb + j, 2, none⟩ = some (.int .i64 (cnt (fun k => tt (τ (j * 256 + k)) ≠ 0) (blen m j) : Nat))
  hs : ∀ i, i < m → HB w' (hb i) (K i) (tt i) (sm i)
  inn : ∀ i, i < m → w'.cell? ⟨hb (τ i), 18, none⟩ = some (.pointer (some ⟨pb + i / 256, 0, none⟩))
  lt : ∀ i, i < m → τ i < m
  inj : ∀ i j, i < m → j < m → τ i = τ j → i = j
  sur : ∀ k, k < m → ∃ i, i < m ∧ τ i = k
  asc : ∀ i j, i < j → j < m → (K (τ i)).data.toList < (K (τ j)).data.toList

variable {w w' w'' : World} {L m n : Nat} {hb : Nat → Nat} {K : Nat → ByteArray} {tt sm : Nat → Int} {xb yb zb pb NB : Nat} {τ : Nat → Nat}
theorem Odr.toOd (h : Odr w w' m hb K tt sm xb yb zb pb NB τ) : Od w' w.heap.size m hb K tt sm xb yb zb pb NB τ :=
  ⟨h.lx, h.ly, h.lz, h.lp, h.x, h.y, h.z, h.b0, h.b1, h.b2, h.hs, h.inn, h.lt, h.inj, h.sur, h.asc⟩
theorem Od.keep (h : Od w' L m hb K tt sm xb yb zb pb NB τ) {Q : Nat → Prop} (hk : Kp Q w' w'') (hQ : ∀ b, L ≤ b → ¬ Q b) (hh : ∀ i, i < m → ¬ Q (hb i)) : Od w'' L m hb K tt sm xb yb zb pb NB τ := by
  obtain ⟨lx, ly, lz, lp, x, y, z, b0, b1, b2, hs, inn, lt, inj, sur, asc⟩ := h
  exact ⟨lx, ly, lz, lp, fun i hi => hk.cell (hQ _ lx) (x i hi), fun i hi => hk.cell (hQ _ ly) (y i hi), fun i hi => hk.cell (hQ _ lz) (z i hi), fun i hi => hk.cell (hQ _ (by omega)) (b0 i hi), fun i hi => hk.cell (hQ _ (by omega)) (b1 i hi), fun i hi => hk.cell (hQ _ (by omega)) (b2 i hi),
    fun i hi => (hs i hi).keep hk (hh i hi), fun i hi => hk.cell (hh _ (lt i hi)) (inn i hi), lt, inj, sur, asc⟩

/-- clear of a row of pointers. -/
theorem run_clear1 (w : World) (b o n c : Nat) (hc : ∀ j, j < n → (w.cell? ⟨b, o + j, none⟩).isSome = true) (hf : ∀ j, j < n → w.frozen? ⟨b, o + j, none⟩ = false) :
    ∀ ty, (Builtin.clear_ #[103] ty #[.slice (some ⟨b, o, none⟩) n c]).run Yba.prog w = .ok (.tuple #[]) (w.setCells b o (List.replicate n (.pointer none))) := by
  intro ty
  have hv : ∀ w, (zeroValue 131).run Yba.prog w = .ok (.pointer none) w := zero131
  cases n with
  | zero => simp [Builtin.clear_, run_underlying Yba.underlying103, World.setCells]
  | succ m =>
    have hz : (Builtin.zeroCells (Value.pointer none).cells (m + 1)).toList = List.replicate (m + 1) (.pointer none) := by
      apply List.ext_getElem
      · simp [Builtin.zeroCells, Value.cells]
      · intro i h1 h2
        simp [Builtin.zeroCells, Value.cells, Nat.mod_one]
    have hst := run_storeCells_cells (P := Yba.prog) b o (List.replicate (m + 1) (.pointer none)) 0 w (by simpa using hc) (by simpa using hf) (by intro v hv; rw [List.eq_of_mem_replicate hv]; rfl)
    simp only [Nat.add_zero] at hst
    simp [Builtin.clear_, run_underlying Yba.underlying103, hv, hz, hst]

theorem cleared (b : Nat) : ∀ (n o : Nat) (w : World), (∀ j, j < n → (w.cell? ⟨b, o + j, none⟩).isSome = true) → ∀ j, j < n → (w.setCells b o (List.replicate n (.pointer none))).cell? ⟨b, o + j, none⟩ = some (.pointer none) := by
  intro n o w h j hj
  have hin := World.cell?_setCells_in b (List.replicate n (.pointer none)) o w (by intro t ht; exact h t (by simpa using ht)) j (by simpa using hj)
  rw [hin]
  simp [hj]

/-- What order finds. -/
structure LdIn (w : World) (lb R M B n nm : Nat) (hb : Nat → Nat) (K : Nat → ByteArray) (tt sm : Nat → Int) (D : DataW Unit) (ov : Nat → Option Nat) : Prop where
  l0 : w.cell? ⟨lb, 0, none⟩ = some (.pointer (some ⟨R, 0, none⟩))
  l1 : w.cell? ⟨lb, 1, none⟩ = some (.slice (some ⟨B, 0, none⟩) n n)
  lf : w.frozen? ⟨lb, 1, none⟩ = false
  r6 : w.cell? ⟨R, 6, none⟩ = some (.map (some M))
  r7 : ∃ v, w.cell? ⟨R, 7, none⟩ = some v
  rf : w.frozen? ⟨R, 7, none⟩ = false
  row : ∀ i, i < n → w.cell? ⟨B, i, none⟩ = some (.pointer (some ⟨hb i, 0, none⟩))
  bf : ∀ o, w.frozen? ⟨B, o, none⟩ = false
  bl : B < w.heap.size
  hs : ∀ i, i < n → HB w (hb i) (K i) (tt i) (sm i)
  len : ∀ i, i < n → (K i).size ≤ maxLen
  map : w.ownsMap Yba.prog 9 ptrE M nm D
  look : ∀ i, i < n → D.atKey (.string (K i).data.toList) .nil = match ov i with | none => .nil | some b => .lit (.int .i64 b)
  pl : ∀ i b, i < n → ov i = some b → Pl w b
  n1 : lb ≠ R
  n2 : lb ≠ B
  n3 : R ≠ B
  n4 : M ≠ lb
  n5 : M ≠ B
  hn : ∀ i, i < n → hb i ≠ lb ∧ hb i ≠ R ∧ hb i ≠ B ∧ hb i ≠ M
  hj : ∀ i j, i < n → j < n → hb i = hb j → i = j
  pn : ∀ i b, i < n → ov i = some b → b ≠ B
  hd : ∀ i j, i < n → j < n → ov i = some (hb i) → ov j = some (hb j) → (K i).data.toList = (K j).data.toList → i = j

def kept (hb : Nat → Nat) (ov : Nat → Option Nat) (i : Nat) : Bool := decide (ov i = some (hb i))
def eps (hb : Nat → Nat) (ov : Nat → Option Nat) (n j : Nat) : Nat := (flv (kept hb ov) n).getD j 0

/-- order's loop. -/
structure OS (w wr : World) (B n : Nat) (hb : Nat → Nat) (ov : Nat → Option Nat) (i : Nat) : Prop where
  kp : Kp (fun b => b = B) w wr
  lo : ∀ j, j < (flv (kept hb ov) i).length → wr.cell? ⟨B, j, none⟩ = some (.pointer (some ⟨hb (eps hb ov i j), 0, none⟩))
  hi : ∀ j, i ≤ j → j < n → wr.cell? ⟨B, j, none⟩ = some (.pointer (some ⟨hb j, 0, none⟩))
  ex : ∀ j, j < n → (wr.cell? ⟨B, j, none⟩).isSome = true
  fz : ∀ o, wr.frozen? ⟨B, o, none⟩ = false

theorem OS.no {wr wy : World} {B i : Nat} {ov : Nat → Option Nat} (h : OS w wr B n hb ov i) (hk : kept hb ov i = false) (hy : Kp (fun _ => False) wr wy) (hl : B < wr.heap.size) : OS w wy B n hb ov (i + 1) := by
  refine ⟨h.kp.trans (hy.mono fun _ _ => False.elim), ?_, fun j h1 h2 => hy.cell id (h.hi j (by omega) h2), fun j hj => by rw [hy.cellb hl id]; exact h.ex j hj, fun o => (hy.frozen hl id).trans (h.fz o)⟩
  unfold eps
  rw [flv_no hk]
  intro j hj
  exact hy.cell id (h.lo j hj)
theorem OS.yes {wr wy : World} {B i : Nat} {ov : Nat → Option Nat} (h : OS w wr B n hb ov i) (hi : i < n) (hk : kept hb ov i = true) (hy : Kp (fun _ => False) wr wy) (hl : B < wr.heap.size) :
    OS w (wy.setCell ⟨B, (flv (kept hb ov) i).length, none⟩ (.pointer (some ⟨hb i, 0, none⟩))) B n hb ov (i + 1) := by
  have hle := flv_le (kept hb ov) i
  refine ⟨(h.kp.trans (hy.mono fun _ _ => False.elim)).set (Or.inl rfl) _, ?_, ?_, ?_, fun o => ?_⟩
  · unfold eps
    rw [flv_yes hk]
    intro j hj
    simp at hj
    by_cases e : j = (flv (kept hb ov) i).length
    · subst e
      have : (flv (kept hb ov) i ++ [i]).getD (flv (kept hb ov) i).length 0 = i := by simp
      rw [this]
      have hx := h.ex (flv (kept hb ov) i).length (by omega)
      obtain ⟨v, hv⟩ := Option.isSome_iff_exists.1 hx
      exact cset_eq _ _ _ _ v (hy.cell id hv)
    · have e2 : (flv (kept hb ov) i ++ [i]).getD j 0 = (flv (kept hb ov) i).getD j 0 := by
        simp [List.getD_eq_getElem?_getD, List.getElem?_append_left (show j < (flv (kept hb ov) i).length by omega)]
      rw [e2, cset_ne _ _ _ _ _ _ (by omega)]
      exact hy.cell id (h.lo j (by omega))
  · intro j h1 h2
    rw [cset_ne _ _ _ _ _ _ (by omega)]
    exact hy.cell id (h.hi j (by omega) h2)
  · intro j hj
    by_cases e : j = (flv (kept hb ov) i).length
    · subst e
      have hx := h.ex _ hj
      obtain ⟨v, hv⟩ := Option.isSome_iff_exists.1 hx
      rw [cset_eq _ _ _ _ v (hy.cell id hv)]
      rfl
    · rw [cset_ne _ _ _ _ _ _ (by omega), hy.cellb hl id]
      exact h.ex j hj
  · have := (hy.frozen (o := o) hl id).trans (h.fz o)
    simpa using this

theorem Od.mono (h : Od w' L m hb K tt sm xb yb zb pb NB τ) {L' : Nat} (hl : L' ≤ L) : Od w' L' m hb K tt sm xb yb zb pb NB τ := by
  obtain ⟨lx, ly, lz, lp, x, y, z, b0, b1, b2, hs, inn, lt, inj, sur, asc⟩ := h
  exact ⟨by omega, by omega, by omega, by omega, x, y, z, b0, b1, b2, hs, inn, lt, inj, sur, asc⟩

/-- The row behind clear. -/
structure CL (w wx : World) (B n E : Nat) (hb : Nat → Nat) (ov : Nat → Option Nat) : Prop where
  kp : Kp (fun b => b = B) w wx
  lo : ∀ j, j < E → wx.cell? ⟨B, j, none⟩ = some (.pointer (some ⟨hb (eps hb ov n j), 0, none⟩))
  hi : ∀ j, E ≤ j → j < n → wx.cell? ⟨B, j, none⟩ = some (.pointer none)

/-- What order leaves. -/
structure LdOut (w w' : World) (lb R B n E : Nat) (hb : Nat → Nat) (K : Nat → ByteArray) (tt sm : Nat → Int) (ov : Nat → Option Nat) (xb yb zb pb : Nat) (τ : Nat → Nat) : Prop where
  kp : Kp (fun b => b = lb ∨ b = R ∨ b = B ∨ ∃ i, i < n ∧ b = hb i) w w'
  l1 : w'.cell? ⟨lb, 1, none⟩ = some (.slice (some ⟨B, 0, none⟩) E n)
  lo : ∀ j, j < E → w'.cell? ⟨B, j, none⟩ = some (.pointer (some ⟨hb (eps hb ov n j), 0, none⟩))
  hi : ∀ j, E ≤ j → j < n → w'.cell? ⟨B, j, none⟩ = some (.pointer none)
  r7 : w'.cell? ⟨R, 7, none⟩ = some (.slice (some ⟨zb, 0, none⟩) ((E + 255) / 256) ((E + 255) / 256))
  od : Od w' w.heap.size E (fun j => hb (eps hb ov n j)) (fun j => K (eps hb ov n j)) (fun j => tt (eps hb ov n j)) (fun j => sm (eps hb ov n j)) xb yb zb pb ((E + 255) / 256) τ

set_option maxHeartbeats 4000000 in
theorem or_walk (lb R M B n nm : Nat) (hb : Nat → Nat) (K : Nat → ByteArray) (tt sm : Nat → Int) (D : DataW Unit) (ov : Nat → Option Nat) (w : World) (hI : LdIn w lb R M B n nm hb K tt sm D ov) (hn : n ≤ 1024) :
    Calls Yba.prog 16 #[.pointer (some ⟨lb, 0, none⟩)] w fun e w' => e = .returned (.tuple #[]) ∧ ∃ (xb yb zb pb : Nat) (τ : Nat → Nat), Hid (LdOut w w' lb R B n (flv (kept hb ov) n).length hb K tt sm ov xb yb zb pb τ) := by
  have HI : Hid (LdIn w lb R M B n nm hb K tt sm D ov) := hI
  have l0 := hI.l0
  have l1 := hI.l1
  clear hI
  go_enter Yba.func16, Yba.ntmps16
  go_upto_block 0 with fail
  go_cut [2, 15] from 4 to 37 (fun s2 s15 wx => s2 = .slice (some ⟨B, 0, none⟩) (flv (kept hb ov) n).length n ∧ Hid (OS w wx B n hb ov n))
  case first =>
    go_wp2_with fail
    go_loopw [2, 15] (fun v2 v15 wr => ∃ i k : Nat, v15 = .int .i64 i ∧ i ≤ n ∧ v2 = .slice (some ⟨B, 0, none⟩) k n ∧ Hid (k = (flv (kept hb ov) i).length) ∧ Hid (OS w wr B n hb ov i)) (fun _ v _ => n + 1 - (intOf v).toNat)
    case atStart => exact ⟨0, 0, rfl, Nat.zero_le _, rfl, rfl, ⟨Kp.refl _ _, fun j hj => absurd hj (by simp [flv]), fun j _ hj => HI.out.row j hj, fun j hj => by rw [HI.out.row j hj]; rfl, HI.out.bf⟩⟩
    case round =>
      obtain ⟨i, k, rfl, hi, rfl, HK, HS⟩ := hrel
      clear l0 l1
      have I := HI.out
      have S := HS.out
      by_cases hlt : i < n
      · have hltz : (i : Int) < (n : Int) := by omega
        have c0 := S.kp.cell (b := lb) I.n2 I.l0
        have c1 := S.hi i (Nat.le_refl _) hlt
        have c2 := S.kp.cell (b := R) I.n3 I.r6
        have c3 : wr.cell? ⟨hb i, 0, none⟩ = some (.string (K i)) := S.kp.cell (I.hn i hlt).2.2.1 ((I.hs i hlt).c 0 (by omega))
        have hkl : k ≤ i := by rw [HK.out]; exact flv_le _ _
        have hlk : ∀ q, (Instr.lookup 50 (.map (some M)) (.string (K i)) false).run Yba.prog (wr.drewN q) = .ok (pv (ov i)) (wr.drewN q) := fun q => by
          have hm : (wr.drewN q).ownsMap Yba.prog 9 ptrE M nm D := ((S.kp.drewN q).map I.n5 I.map)
          obtain ⟨v, ps, hrun, hv⟩ := hm.lookup law9 Yba.underlying50 (zero131 _) ptrE_nil (keyOf_string_mk Yba.underlying9 (I.len i hlt))
          rw [I.look i hlt] at hv
          rw [hrun]
          cases ho : ov i with
          | none => rw [ho] at hv; rw [ptrE_inv_nil hv]; rfl
          | some b => rw [ho] at hv; rw [ptrE_inv hv]; rfl
        have heq : ∀ q, (binOp .eql 131 (pv (ov i)) (.pointer (some ⟨hb i, 0, none⟩))).run Yba.prog (wr.drewN q) = .ok (.bool (kept hb ov i)) (wr.drewN q) := fun q =>
          eql131 (ov i) (some (hb i)) (wr.drewN q) (fun b hb' => (I.pl i b hlt hb').keep (S.kp.drewN q) (I.pn i b hlt hb')) (fun b hb' => by cases hb'; exact (I.hs i hlt).pl.keep (S.kp.drewN q) (I.hn i hlt).2.2.1)
        have HBL : Hid (B < wr.heap.size) := Nat.lt_of_lt_of_le I.bl S.kp.size
        have HKV : Hid (kept hb ov i = decide (ov i = some (hb i))) := rfl
        obtain ⟨kv, hkv⟩ : ∃ kv, kv = kept hb ov i := ⟨_, rfl⟩
        rw [← hkv] at heq
        have HKE : Hid (kept hb ov i = kv) := hkv.symm
        clear hkv I S
        go_upto_region 4 with fail
        go_cut [32] from 16 to 32 (fun s32 wx => s32 = .bool kv ∧ ∃ q, wx = wr.drewN q)
        case first =>
          cases ho : ov i with
          | none =>
            rw [ho] at hlk heq
            simp only [pv] at hlk heq
            go_quiet (fail)
            go_wp2
            go_meet
            have e := HKV.out
            rw [HKE.out, ho] at e
            subst e
            exact ⟨rfl, _, rfl⟩
          | some b =>
            rw [ho] at hlk heq
            simp only [pv] at hlk heq
            go_quiet (fail)
            go_wp2
            go_meet
            exact ⟨rfl, _, rfl⟩
        case rest =>
          obtain ⟨rfl, q, rfl⟩ := hcut
          clear hlk heq c0 c2 c3
          cases kv with
          | false =>
            go_wp2
            go_roundw
            case rel => exact ⟨i + 1, k, by go_num, by omega, rfl, by rw [flv_no HKE.out]; exact HK, HS.out.no HKE.out ((Kp.refl _ _).drewN q) HBL.out⟩
            case measure => simp [intOf]; omega
          | true =>
            have hlo : ∀ j, j < k → ((wr.drewN q).alloc (.cells #[.pointer (some ⟨hb i, 0, none⟩)] 131)).cell? ⟨B, j, none⟩ = some (.pointer (some ⟨hb (eps hb ov i j), 0, none⟩)) := fun j hj => (alloc_old _ _ _ _ HBL.out).trans (HS.out.lo j (by rw [← HK.out]; exact hj))
            have hsp : (((wr.drewN q).alloc (.cells #[.pointer (some ⟨hb i, 0, none⟩)] 131)).cell? ⟨B, k, none⟩).isSome = true ∧ ((wr.drewN q).alloc (.cells #[.pointer (some ⟨hb i, 0, none⟩)] 131)).frozen? ⟨B, k, none⟩ = false := by
              rw [alloc_old _ _ _ _ (show B < (wr.drewN q).heap.size from HBL.out), alloc_oldf _ _ _ _ (show B < (wr.drewN q).heap.size from HBL.out)]
              exact ⟨HS.out.ex k (by omega), HS.out.fz k⟩
            have hnc : ((wr.drewN q).alloc (.cells #[.pointer (some ⟨hb i, 0, none⟩)] 131)).cell? ((⟨wr.heap.size, 0, none⟩ : Addr).add 0) = some (.pointer (some ⟨hb i, 0, none⟩)) := by rw [Addr.add_lit]; exact (alloc_new _ _ _ _ _ rfl).trans rfl
            have HLO : Hid (∀ j, j < k → ((wr.drewN q).alloc (.cells #[.pointer (some ⟨hb i, 0, none⟩)] 131)).cell? ⟨B, j, none⟩ = some (.pointer (some ⟨hb (eps hb ov i j), 0, none⟩))) := hlo
            have HSP : Hid ((((wr.drewN q).alloc (.cells #[.pointer (some ⟨hb i, 0, none⟩)] 131)).cell? ⟨B, k, none⟩).isSome = true ∧ ((wr.drewN q).alloc (.cells #[.pointer (some ⟨hb i, 0, none⟩)] 131)).frozen? ⟨B, k, none⟩ = false) := hsp
            have HNC : Hid (((wr.drewN q).alloc (.cells #[.pointer (some ⟨hb i, 0, none⟩)] 131)).cell? ((⟨wr.heap.size, 0, none⟩ : Addr).add 0) = some (.pointer (some ⟨hb i, 0, none⟩))) := hnc
            clear hlo hsp hnc
            go_wp2_with (at_builtin; refine wpList_in rfl (.tmp 33) (.tmp 35) rfl B k n rfl _ HLO.out (by omega) (by omega) HSP.out ⟨wr.heap.size, 0, none⟩ 1 (.pointer (some ⟨hb i, 0, none⟩)) rfl HNC.out rfl ?_)
            go_roundw
            case rel =>
              have hk := HK.out
              subst hk
              exact ⟨i + 1, _, by go_num, by omega, rfl, by rw [flv_yes HKE.out]; simp [Hid], HS.out.yes hlt HKE.out (((Kp.refl _ _).drewN q).alloc _) HBL.out⟩
            case measure => simp [intOf]; omega
      · have hltz : ¬ (i : Int) < (n : Int) := by omega
        go_wp2
        go_meet
        have e : i = n := by omega
        subst e
        have hk := HK.out
        subst hk
        exact ⟨rfl, HS⟩
  case rest =>
    clear l0 l1
    obtain ⟨rfl, HS⟩ := hcut
    obtain ⟨E, hE⟩ : ∃ E, E = (flv (kept hb ov) n).length := ⟨_, rfl⟩
    rw [← hE]
    have hEn : E ≤ n := by rw [hE]; exact flv_le _ _
    have HE : Hid (E = (flv (kept hb ov) n).length) := hE
    clear hE
    have c0 := HS.out.kp.cell (b := lb) HI.out.n2 HI.out.l0
    have c1 := HS.out.kp.cell (b := lb) HI.out.n2 HI.out.l1
    go_upto_region 7 with fail
    go_cut [] from 38 to 44 (fun wx => Hid (CL w wx B n E hb ov))
    case first =>
      by_cases hlt : E < n
      · have hltz : (E : Int) < (n : Int) := by omega
        have hex : ∀ j, j < n - E → (wc.cell? ⟨B, E + j, none⟩).isSome = true := fun j hj => HS.out.ex _ (by omega)
        have hcl := run_clear1 wc B E (n - E) (n - E) hex (fun j hj => HS.out.fz _)
        have HEX : Hid (∀ j, j < n - E → (wc.cell? ⟨B, E + j, none⟩).isSome = true) := hex
        have nn : ¬ (n = E) := by omega
        have nn2 : ¬ (E = n) := by omega
        clear hex
        go_wp2
        go_meet
        refine ⟨HS.out.kp.trans (kp_setCells B _ _ _), ?_, ?_⟩
        · intro j hj
          rw [World.cell?_setCells_out B _ _ _ _ (by intro _ _; left; simp; omega)]
          exact HS.out.lo j (by rw [← HE.out]; exact hj)
        · intro j h1 h2
          have := cleared B (n - E) E wc HEX.out (j - E) (by omega)
          rwa [show E + (j - E) = j by omega] at this
      · have hltz : ¬ (E : Int) < (n : Int) := by omega
        obtain rfl : E = n := by omega
        have hcl := run_clear1 wc B 0 0 0 (fun j hj => by omega) (fun j hj => by omega)
        go_wp2
        go_meet
        exact ⟨HS.out.kp, fun j hj => HS.out.lo j (by rw [← HE.out]; exact hj), fun j h1 h2 => by omega⟩
    case rest =>
      clear c0 c1 HS
      have HC := hcut
      clear hcut
      have c0 := HC.out.kp.cell (b := lb) HI.out.n2 HI.out.l0
      have c1 := HC.out.kp.cell (b := lb) HI.out.n2 HI.out.l1
      have f1 := (HC.out.kp.frozen (b := lb) (o := 1) (block_lt_of_cell HI.out.l1) HI.out.n2).trans HI.out.lf
      go_upto_region 9 with fail
      clear c1 f1
      have k3 : Kp (fun b => b = lb ∨ b = B) w (wc.setCell ⟨lb, 1, none⟩ (.slice (some ⟨B, 0, none⟩) E n)) := Kp.set (P := fun b => b = lb ∨ b = B) (HC.out.kp.mono (fun b _ h => Or.inr h)) (Or.inl (Or.inl rfl)) _
      have K3 : Hid (Kp (fun b => b = lb ∨ b = B) w (wc.setCell ⟨lb, 1, none⟩ (.slice (some ⟨B, 0, none⟩) E n))) := k3
      have LO3 : Hid (∀ j, j < E → (wc.setCell ⟨lb, 1, none⟩ (.slice (some ⟨B, 0, none⟩) E n)).cell? ⟨B, j, none⟩ = some (.pointer (some ⟨hb (eps hb ov n j), 0, none⟩))) := fun j hj => by
        rw [cset_ne _ _ _ _ _ _ (fun h => HI.out.n2 h.1.symm)]; exact HC.out.lo j hj
      have HI3 : Hid (∀ j, E ≤ j → j < n → (wc.setCell ⟨lb, 1, none⟩ (.slice (some ⟨B, 0, none⟩) E n)).cell? ⟨B, j, none⟩ = some (.pointer none)) := fun j h1 h2 => by
        rw [cset_ne _ _ _ _ _ _ (fun h => HI.out.n2 h.1.symm)]; exact HC.out.hi j h1 h2
      have L13 : Hid ((wc.setCell ⟨lb, 1, none⟩ (.slice (some ⟨B, 0, none⟩) E n)).cell? ⟨lb, 1, none⟩ = some (.slice (some ⟨B, 0, none⟩) E n)) := cset_eq _ _ _ _ _ (HC.out.kp.cell (b := lb) HI.out.n2 HI.out.l1)
      have L03 : (wc.setCell ⟨lb, 1, none⟩ (.slice (some ⟨B, 0, none⟩) E n)).cell? ⟨lb, 0, none⟩ = some (.pointer (some ⟨R, 0, none⟩)) := by rw [cset_ne _ _ _ _ _ _ (by omega)]; exact c0
      clear k3 HC c0
      generalize wc.setCell ⟨lb, 1, none⟩ (.slice (some ⟨B, 0, none⟩) E n) = w3 at *
      have eb : ∀ j, j < E → eps hb ov n j < n ∧ ov (eps hb ov n j) = some (hb (eps hb ov n j)) := fun j hj => by
        have h := flv_mem (lvf := kept hb ov) (k := n) (j := j) (by rw [← HE.out]; exact hj)
        exact ⟨h.1, of_decide_eq_true h.2⟩
      have EB : Hid (∀ j, j < E → eps hb ov n j < n ∧ ov (eps hb ov n j) = some (hb (eps hb ov n j))) := eb
      have hno := no_walk B E n (fun j => hb (eps hb ov n j)) (fun j => K (eps hb ov n j)) (fun j => tt (eps hb ov n j)) (fun j => sm (eps hb ov n j)) w3.drew LO3.out
        (fun i hi => (HI.out.hs _ (eb i hi).1).keep K3.out.drew (by have := HI.out.hn _ (eb i hi).1; omega)) (fun i hi => HI.out.len _ (eb i hi).1) (fun i hi => Ne.symm (HI.out.hn _ (eb i hi).1).2.2.1)
        (fun i j hi hj e => flv_inj (lvf := kept hb ov) (k := n) (by rw [← HE.out]; exact hi) (by rw [← HE.out]; exact hj) (HI.out.hj _ _ (eb i hi).1 (eb j hj).1 e)) (by omega) hEn (by omega)
        (fun i j hi hj e => flv_inj (lvf := kept hb ov) (k := n) (by rw [← HE.out]; exact hi) (by rw [← HE.out]; exact hj) (HI.out.hd _ _ (eb i hi).1 (eb j hj).1 (eb i hi).2 (eb j hj).2 e))
      clear eb
      have r7 : ∃ v, w3.cell? ⟨R, 7, none⟩ = some v := by
        obtain ⟨v, hv⟩ := HI.out.r7
        exact ⟨v, K3.out.cell (by have := HI.out.n1; have := HI.out.n3; omega) hv⟩
      obtain ⟨v7, r7⟩ := r7
      have rl : R < w.heap.size := block_lt_of_cell HI.out.r6
      have rf := (K3.out.frozen (b := R) (o := 7) rl (by have := HI.out.n1; have := HI.out.n3; omega)).trans HI.out.rf
      have nlb : ¬ ∃ i, i < E ∧ lb = hb (eps hb ov n i) := fun ⟨i, hi, e⟩ => (HI.out.hn _ (EB.out i hi).1).1 e.symm
      have nR : ¬ ∃ i, i < E ∧ R = hb (eps hb ov n i) := fun ⟨i, hi, e⟩ => (HI.out.hn _ (EB.out i hi).1).2.1 e.symm
      have nB : ¬ ∃ i, i < E ∧ B = hb (eps hb ov n i) := fun ⟨i, hi, e⟩ => (HI.out.hn _ (EB.out i hi).1).2.2.1 e.symm
      have r3 : R < w3.heap.size := block_lt_of_cell r7
      have HFIN : Hid (∀ (w4 : World) (xb yb zb pb : Nat) (τ : Nat → Nat), Odr w3.drew w4 E (fun j => hb (eps hb ov n j)) (fun j => K (eps hb ov n j)) (fun j => tt (eps hb ov n j)) (fun j => sm (eps hb ov n j)) xb yb zb pb ((E + 255) / 256) τ →
          LdOut w (w4.setCell ⟨R, 7, none⟩ (.slice (some ⟨zb, 0, none⟩) ((E + 255) / 256) ((E + 255) / 256))) lb R B n E hb K tt sm ov xb yb zb pb τ) := by
        intro w4 xb yb zb pb τ o
        have n1 := HI.out.n1
        have n3 := HI.out.n3
        have k4 : Kp (fun b => b = lb ∨ b = R ∨ b = B ∨ ∃ i, i < n ∧ b = hb i) w w4 :=
          Kp.trans' (K3.out.drew.mono (Q := fun b => b = lb ∨ b = R ∨ b = B ∨ ∃ i, i < n ∧ b = hb i) (fun b _ h => h.elim Or.inl fun h => Or.inr (Or.inr (Or.inl h)))) o.kp (fun b _ ⟨i, hi, e⟩ => Or.inr (Or.inr (Or.inr ⟨_, (EB.out i hi).1, e⟩)))
        have k5 : Kp (fun b => b = R) w4 (w4.setCell ⟨R, 7, none⟩ (.slice (some ⟨zb, 0, none⟩) ((E + 255) / 256) ((E + 255) / 256))) := Kp.set (P := fun b => b = R) (Kp.refl _ _) (Or.inl rfl) _
        refine ⟨Kp.set (P := fun b => b = lb ∨ b = R ∨ b = B ∨ ∃ i, i < n ∧ b = hb i) k4 (Or.inl (Or.inr (Or.inl rfl))) _, k5.cell n1 (o.kp.cell nlb L13.out), fun j hj => k5.cell (fun e => n3 e.symm) (o.kp.cell nB (LO3.out j hj)), fun j h1 h2 => k5.cell (fun e => n3 e.symm) (o.kp.cell nB (HI3.out j h1 h2)), cset_eq _ _ _ _ _ (o.kp.cell nR r7), ?_⟩
        exact (o.toOd.keep k5 (fun b hb e => by have h : w3.heap.size ≤ b := hb; omega) (fun i hi e => nR ⟨i, hi, e.symm⟩)).mono K3.out.size
      go_region_with ((go_at_call 29; refine hno.mono ?_; rintro e w4 ⟨xb, yb, zb, pb, τ, rfl, HO⟩; have d0 := HO.out.kp.cell nlb L03; have d7 := HO.out.kp.cell nR r7; have df := (HO.out.kp.frozen (b := R) (o := 7) r3 nR).trans rf))
      all_goals go_wp2
      all_goals go_end0
      all_goals exact ⟨rfl, _, _, _, _, _, by rw [← HE.out]; exact HFIN.out _ _ _ _ _ _ HO.out⟩

end Go.Proofs.Ybulkaixg.Ord
