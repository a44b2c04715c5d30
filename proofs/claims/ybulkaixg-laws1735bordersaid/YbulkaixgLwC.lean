/-
  The law's last loops: the blocks.
-/
import Derived.Test.YbulkaixgLwT
namespace Go.Proofs.Ybulkaixg.Ord
open Go.RowKit Go.Maps Go.WideMaps Mp
set_option linter.unusedVariables false
set_option linter.unusedSimpArgs false
set_option maxRecDepth 1000000

/-- The code behind the block k. -/
def tailOf (k : Nat) : Code → Option (Option Code)
  | .seq a b => match tailOf k a with
    | some none => some (some b)
    | some (some c) => some (some (.seq c b))
    | none => tailOf k b
  | .block i _ => if i = k then some none else none
  | _ => none

set_option maxHeartbeats 16000000 in
theorem tail_walk (a0 : Option Addr) (n c0 : Nat) (Kf : Nat → ByteArray) (a1 : Option Addr) (n1 c1 : Nat) (W w6 w8 : World) (lb R B C E : Nat) (hb : Nat → Nat) (ov : Nat → Option Nat) (xb yb zb pb : Nat) (τ : Nat → Nat) (la : Option Addr) (lc : Nat)
    (hn : n ≤ 1024) (hEn : E ≤ n) (HE : Hid (E = (flv (kept hb ov) n).length)) (HR6 : Hid (PRow w6 (.slice la E lc) E (fun j => .pointer (some ⟨hb (eps hb ov n j), 0, none⟩)))) (HG6 : Hid (G W w6 lb R B C n E hb (eps hb ov n) Kf xb yb zb pb τ)) (HK8 : Hid (Kp (fun _ => False) w6 w8))
    {u2 u3 u4 u8 u9 u14 u15 u16 u17 u18 u19 u20 u21 u22 u23 u24 u25 u26 u27 u28 u29 u30 u31 u32 u33 u34 u35 u36 u37 u38 u39 u40 u41 u42 u43 u44 u45 u46 u47 u48 u49 u50 u51 u52 u53 u54 u55 u56 u57 u58 u59 u60 u61 u62 u63 u64 u65 u66 u67 u68 u69 u70 u71 u72 u73 u74 u75 u76 u77 u78 u79 u80 u81 u82 u83 u84 u85 u86 u87 u88 u89 u90 u91 u92 u93 u94 u95 u96 u97 u98 u99 u100 u101 u102 u103 u104 u105 u106 u107 u108 u109 u110 u111 u112 u113 u114 u115 u116 u117 u118 u119 u120 u121 u122 u123 u124 u125 u126 u127 u128 u129 u130 u131 u132 u133 u134 u135 u136 u137 u138 u139 u140 u141 u142 u143 u144 u145 u146 u147 u148 u149 u150 u151 u152 u153 u154 u155 u156 u157 u158 u159 u160 u161 u162 u163 u164 u165 u166 u167 u168 u169 u170 u171 u172 u173 u174 u175 u176 u177 u178 u179 u180 u181 u182 u183 u184 u185 u186 u187 u188 u189 u190 u191 u192 u193 u194 u195 u196 u197 u198 u199 u200 u201 u202 u203 u204 u205 u206 u207 u208 u209 u210 u211 u212 u213 u214 u215 u216 u217 u218 u219 u220 u221 u222 u223 u224 u225 u226 u227 u228 u229 u230 u231 u232 u233 u234 u235 u236 u237 u238 u239 u240 u241 u242 u243 u244 u245 u246 u247 u248 u249 u250 u251 u252 u253 u254 u255 u256 u257 u258 u259 u260 u261 u262 u263 u264 u265 u266 u267 u268 u269 u270 u271 u272 u273 u274 u275 u276 u277 u278 u279 u280 u281 u282 u283 u284 u285 u286 u287 u288 u289 u290 u291 u292 u293 u294 u295 u296 u297 u298 u299 u300 u301 u302 u303 u304 u305 u306 u307 u308 u309 u310 u311 u312 u313 u314 u315 u316 u317 u318 u319 u320 u321 u322 : Value} :
    Code.wp Yba.prog (((Yba.f5.body.bind (tailOf 9)).bind id).getD .skip) (bodyPost Yba.prog Yba.f5 fun e w' => e = .returned (.bool true) ∧ Below W.heap.size W w') ⟨#[.slice a0 n c0, .slice a1 n1 c1, u2, u3, u4, .int .i64 (n : Int), .pointer (some ⟨R, 0, none⟩), .slice (some ⟨B, 0, none⟩) n n, u8, u9, .slice (some ⟨C, 0, none⟩) n n, .slice (some ⟨B, 0, none⟩) n n, .pointer (some ⟨lb, 0, none⟩), .slice la E lc, u14, u15, u16, u17, u18, u19, u20, u21, u22, u23, u24, u25, u26, u27, u28, u29, u30, u31, u32, u33, u34, u35, u36, u37, u38, u39, u40, u41, u42, u43, u44, u45, u46, u47, u48, u49, u50, u51, u52, u53, u54, u55, u56, u57, u58, u59, u60, u61, u62, u63, u64, u65, u66, u67, u68, u69, u70, u71, u72, u73, u74, u75, u76, u77, u78, u79, u80, u81, u82, u83, u84, u85, u86, u87, u88, u89, u90, u91, u92, u93, u94, u95, u96, u97, u98, u99, u100, u101, u102, u103, u104, u105, u106, u107, u108, u109, u110, u111, u112, u113, u114, u115, u116, u117, u118, u119, u120, u121, u122, u123, u124, u125, u126, u127, u128, u129, u130, u131, u132, u133, u134, u135, u136, u137, u138, u139, u140, u141, u142, u143, u144, u145, u146, u147, u148, u149, u150, u151, u152, u153, u154, u155, u156, u157, u158, u159, u160, u161, u162, u163, u164, u165, u166, u167, u168, u169, u170, u171, u172, u173, u174, u175, u176, u177, u178, u179, u180, u181, u182, u183, u184, u185, u186, u187, u188, u189, u190, u191, u192, u193, u194, u195, u196, u197, u198, u199, u200, u201, u202, u203, u204, u205, u206, u207, u208, u209, u210, u211, u212, u213, u214, u215, u216, u217, u218, u219, u220, u221, u222, u223, u224, u225, u226, u227, u228, u229, u230, u231, u232, u233, u234, u235, u236, u237, u238, u239, u240, u241, u242, u243, u244, u245, u246, u247, u248, u249, u250, u251, u252, u253, u254, u255, u256, u257, u258, u259, u260, u261, u262, u263, u264, u265, u266, u267, u268, u269, u270, u271, u272, u273, u274, u275, u276, u277, u278, u279, u280, u281, u282, u283, u284, u285, u286, u287, u288, u289, u290, u291, u292, u293, u294, u295, u296, u297, u298, u299, u300, u301, u302, u303, u304, u305, u306, u307, u308, u309, u310, u311, u312, u313, u314, u315, u316, u317, u318, u319, u320, u321, u322], []⟩ w8 := by
  conv => arg 2; whnf
  have c1 := (HG6.out.keep HK8.out).r7
  obtain ⟨NB, hNB⟩ : ∃ NB, NB = (E + 255) / 256 := ⟨_, rfl⟩
  have HNB : Hid (NB = (E + 255) / 256) := hNB
  have eNB : ((E : Int) + 256 - 1) / 256 = (NB : Int) := by omega
  rw [← hNB] at c1
  have n4 : NB ≤ 4 := by omega
  clear hNB
  have HOD : Hid (∀ wx, Kp (fun _ => False) w6 wx → Od wx W.heap.size E (fun j => hb (eps hb ov n j)) (fun j => Kf (eps hb ov n j)) (fun j => ttF (eps hb ov n j)) (fun j => smF (eps hb ov n j)) xb yb zb pb NB τ) := fun wx k => by
    rw [HNB.out]; exact (HG6.out.keep k).od
  go_upto_block 11 with fail
  clear c1 eNB
  go_cut [20] from 21 to 318 (fun s20 wx => s20 = .int .i64 E ∧ Hid (Kp (fun _ => False) w6 wx))
  case first =>
    go_wp2_with fail
    go_loopw [20, 21, 200] (fun v20 v21 v200 wr => ∃ (t T : Nat) (p : ByteArray), v200 = .int .i64 t ∧ t ≤ NB ∧ v20 = .int .i64 T ∧ Hid (T = min (t * 256) E) ∧ v21 = .string p ∧ Hid (0 < T → p = Kf (eps hb ov n (τ (T - 1)))) ∧ Hid (Kp (fun _ => False) w6 wr)) (fun _ _ v _ => NB + 1 - (intOf v).toNat)
    case atStart => exact ⟨0, 0, ⟨#[]⟩, rfl, Nat.zero_le _, rfl, (by simp [Hid]), rfl, (fun h => by omega), HK8⟩
    case round =>
      clear HK8
      obtain ⟨t, T, p, rfl, ht, rfl, HT, rfl, HP, HKR⟩ := hrel
      by_cases hlt : t < NB
      · have hltz : (t : Int) < (NB : Int) := by omega
        obtain ⟨bl, hbl⟩ : ∃ bl, bl = blen E t := ⟨_, rfl⟩
        have hE1 : t * 256 < E := by have := HNB.out; omega
        obtain ⟨eb, hla, _⟩ := HR6.out.at_ (show 0 < E by omega)
        subst hla
        have hb1 : 1 ≤ bl := by rw [hbl]; unfold blen; omega
        have hb2 : bl ≤ 256 := by rw [hbl]; unfold blen; omega
        have hb3 : t * 256 + bl ≤ E := by rw [hbl]; unfold blen; omega
        have HB4 : Hid (t + 1 < NB → bl = 256) := fun h => by rw [hbl]; unfold blen; have := HNB.out; omega
        have HB5 : Hid (min ((t + 1) * 256) E = t * 256 + bl) := by rw [hbl]; unfold blen; show _ = _; omega
        have HBL : Hid (blen E t = bl) := hbl.symm
        have hT1 : T ≤ t * 256 := by have := HT.out; omega
        have hT2 : t * 256 ≤ T := by have := HT.out; omega
        clear hbl
        have c1 := (HOD.out _ HKR.out).z t hlt
        have c2 : wr.cell? ⟨pb + t, 0, none⟩ = some (.slice (some ⟨xb, t * 256, none⟩) bl bl) := by have := (HOD.out _ HKR.out).b0 t hlt; rwa [HBL.out] at this
        have c3 : wr.cell? ⟨pb + t, 1, none⟩ = some (.slice (some ⟨yb, t * 256, none⟩) bl bl) := by have := (HOD.out _ HKR.out).b1 t hlt; rwa [HBL.out] at this
        have hnil := eql138_some (pb + t)
        have hbz : ¬ ((bl : Int) = 0) := by omega
        have hbzb : ((bl : Int) == 0) = false := by simp; omega
        go_upto_region 57 with fail
        go_cut [227] from 205 to 227 (fun s227 wx => s227 = .bool false ∧ Hid (Kp (fun _ => False) w6 wx))
        case first =>
          go_quiet (fail)
          go_wp2
          go_meet
          exact ⟨rfl, HKR.out.drewN _⟩
        case rest =>
          clear HKR c1 c2 c3
          obtain ⟨rfl, HKR⟩ := hcut
          have c2 : wc.cell? ⟨pb + t, 0, none⟩ = some (.slice (some ⟨xb, t * 256, none⟩) bl bl) := by have := (HOD.out _ HKR.out).b0 t hlt; rwa [HBL.out] at this
          go_upto_region 59 with fail
          go_cut [240] from 228 to 240 (fun s240 wx => s240 = .bool false ∧ Hid (Kp (fun _ => False) w6 wx))
          case first =>
            by_cases hl1 : t + 1 < NB
            · have hl1z : (t : Int) < (NB : Int) - 1 := by omega
              have e := HB4.out hl1
              subst e
              go_wp2
              go_meet
              exact ⟨rfl, HKR⟩
            · have hl1z : ¬ ((t : Int) < (NB : Int) - 1) := by omega
              go_wp2
              go_meet
              exact ⟨rfl, HKR⟩
          case rest =>
            clear HKR c2
            obtain ⟨rfl, HKR⟩ := hcut
            have c2 : wc.cell? ⟨pb + t, 0, none⟩ = some (.slice (some ⟨xb, t * 256, none⟩) bl bl) := by have := (HOD.out _ HKR.out).b0 t hlt; rwa [HBL.out] at this
            go_upto_block 13 with fail
            clear c2
            go_cut [20, 21, 24, 25, 26, 27, 29] from 246 to 311 (fun s20 s21 s24 s25 s26 s27 s29 wx => ∃ p : ByteArray, s20 = .int .i64 ((T : Int) + (bl : Int)) ∧ s21 = .string p ∧ Hid (p = Kf (eps hb ov n (τ (T + bl - 1)))) ∧ s24 = .int .i64 (cnt (fun q => ttF (eps hb ov n (τ (t * 256 + q))) ≠ 0) bl : Nat) ∧ Hid (Kp (fun _ => False) w6 wx))
            case first =>
              go_wp2_with fail
              go_loopw [20, 21, 24, 246] (fun v20 v21 v24 v246 wr => ∃ (k S : Nat) (p : ByteArray) (c : Nat), v246 = .int .i64 k ∧ k ≤ bl ∧ v20 = .int .i64 S ∧ S ≤ t * 256 + k ∧ t * 256 + k ≤ S ∧ v21 = .string p ∧ Hid (0 < S → p = Kf (eps hb ov n (τ (S - 1)))) ∧ v24 = .int .i64 c ∧ Hid (c = cnt (fun q => ttF (eps hb ov n (τ (t * 256 + q))) ≠ 0) k) ∧ Hid (Kp (fun _ => False) w6 wr)) (fun _ _ _ v _ => bl + 1 - (intOf v).toNat)
              case atStart => exact ⟨0, T, p, 0, rfl, Nat.zero_le _, rfl, by omega, by omega, rfl, HP, rfl, rfl, HKR⟩
              case round =>
                clear HKR HP
                obtain ⟨k, S, p, c, rfl, hk, rfl, hS1, hS2, rfl, HP, rfl, HC, HKR⟩ := hrel
                by_cases hkl : k < bl
                · have hklz : (k : Int) < (bl : Int) := by omega
                  have hIE : t * 256 + k < E := by omega
                  obtain ⟨I, hI⟩ : ∃ I, I = τ (t * 256 + k) := ⟨_, rfl⟩
                  have hI2 : I < E := by rw [hI]; exact (HOD.out _ HKR.out).lt _ hIE
                  have HI : Hid (τ (t * 256 + k) = I) := hI.symm
                  clear hI
                  obtain ⟨H, hH⟩ : ∃ H, H = hb (eps hb ov n I) := ⟨_, rfl⟩
                  have HH : Hid (hb (eps hb ov n I) = H) := hH.symm
                  clear hH
                  have HFA : Hid (∀ wx, Kp (fun _ => False) w6 wx → wx.cell? ⟨pb + t, 0, none⟩ = some (.slice (some ⟨xb, t * 256, none⟩) bl bl) ∧ wx.cell? ⟨pb + t, 1, none⟩ = some (.slice (some ⟨yb, t * 256, none⟩) bl bl) ∧ wx.cell? ⟨xb, t * 256 + k, none⟩ = some (.pointer (some ⟨H, 0, none⟩)) ∧ wx.cell? ⟨yb, t * 256 + k, none⟩ = some (.int .u64 (smF (eps hb ov n I))) ∧
                      wx.cell? ⟨H, 18, none⟩ = some (.pointer (some ⟨pb + t, 0, none⟩)) ∧ wx.cell? ⟨H, 17, none⟩ = some (.int .u64 (smF (eps hb ov n I))) ∧ wx.cell? ⟨H, 8, none⟩ = some (.int .i64 (ttF (eps hb ov n I))) ∧ wx.cell? ⟨H, 0, none⟩ = some (.string (Kf (eps hb ov n I)))) := fun wx kx => by
                    have o := HOD.out wx kx
                    have hx := o.x _ hIE
                    have hy := o.y _ hIE
                    have hin := o.inn _ hIE
                    have hbl0 := o.b0 t hlt
                    have hbl1 := o.b1 t hlt
                    have hh := o.hs I hI2
                    rw [HI.out] at hx hy hin
                    rw [HBL.out] at hbl0 hbl1
                    rw [show (t * 256 + k) / 256 = t by omega] at hin
                    simp only [HH.out] at hx hin hh
                    exact ⟨hbl0, hbl1, hx, hy, hin, hh.c 17 (by omega), hh.c 8 (by omega), hh.c 0 (by omega)⟩
                  obtain ⟨tt, htt⟩ : ∃ tt, tt = ttF (eps hb ov n I) := ⟨_, rfl⟩
                  obtain ⟨sm, hsm⟩ : ∃ sm, sm = smF (eps hb ov n I) := ⟨_, rfl⟩
                  obtain ⟨ky, hky⟩ : ∃ ky, ky = Kf (eps hb ov n I) := ⟨_, rfl⟩
                  rw [← htt, ← hsm, ← hky] at HFA
                  have HTT : Hid (tt = ttF (eps hb ov n I)) := htt
                  have HKK : Hid (ky = Kf (eps hb ov n I)) := hky
                  clear htt hsm hky
                  obtain ⟨c2, c3, c4, c5, c6, c7, c8, c9⟩ := HFA.out _ HKR.out
                  have hn1 := eql131_some H
                  have hn2 := neq138_same (pb + t)
                  go_upto_region 65 with fail
                  go_cut [274] from 251 to 274 (fun s274 wx => s274 = .bool false ∧ Hid (Kp (fun _ => False) w6 wx))
                  case first =>
                    go_quiet (fail)
                    go_wp2
                    go_meet
                    exact ⟨rfl, HKR.out.drewN _⟩
                  case rest =>
                    clear HKR c2 c3 c4 c5 c6 c7 c8 c9
                    obtain ⟨rfl, HKR⟩ := hcut
                    obtain ⟨c2, c3, c4, c5, c6, c7, c8, c9⟩ := HFA.out _ HKR.out
                    clear c2 c3 c4 c5 c6 c7
                    have cb : c ≤ 1024 := by rw [HC.out]; exact Nat.le_trans (cnt_le _ _) (by omega)
                    go_upto_if 280 with fail
                    go_cut [24] from 281 to 282 (fun s24 wx => ∃ c2 : Nat, s24 = .int .i64 c2 ∧ Hid (c2 = cnt (fun q => ttF (eps hb ov n (τ (t * 256 + q))) ≠ 0) (k + 1)) ∧ Hid (Kp (fun _ => False) w6 wx))
                    case first =>
                      have hcs : cnt (fun q => ttF (eps hb ov n (τ (t * 256 + q))) ≠ 0) (k + 1) = c + if tt ≠ 0 then 1 else 0 := by
                        rw [cnt, ← HC.out]
                        simp only [HI.out, ← HTT.out]
                      have HCS : Hid (cnt (fun q => ttF (eps hb ov n (τ (t * 256 + q))) ≠ 0) (k + 1) = c + if tt ≠ 0 then 1 else 0) := hcs
                      clear hcs
                      by_cases h0 : tt = 0
                      · subst h0
                        go_wp2
                        go_meet
                        exact ⟨c, rfl, by rw [HCS.out]; simp [Hid], HKR⟩
                      · go_wp2
                        go_meet
                        exact ⟨c + 1, by go_num, by rw [HCS.out]; simp [Hid, h0], HKR⟩
                    case rest =>
                      clear HKR c8 c9 HC cb
                      obtain ⟨c, rfl, HC, HKR⟩ := hcut
                      obtain ⟨c2, c3, c4, c5, c6, c7, c8, c9⟩ := HFA.out _ HKR.out
                      clear c2 c3 c4 c5 c6 c7 c8
                      go_upto_region 69 with fail
                      go_cut [292] from 283 to 292 (fun s292 wx => s292 = .bool false ∧ Hid (Kp (fun _ => False) w6 wx))
                      case first =>
                        by_cases h0 : 0 < S
                        · have h0z : (0 : Int) < (S : Int) := by omega
                          have hlt2 : p.data.toList < ky.data.toList := by
                            have ha := (HOD.out _ HKR.out).asc (S - 1) (t * 256 + k) (by omega) hIE
                            simp only [HI.out] at ha
                            rw [HP.out h0, HKK.out]
                            exact ha
                          have hle := leq_no ky p hlt2
                          clear hlt2
                          go_wp2
                          go_meet
                          exact ⟨rfl, HKR⟩
                        · have h0z : ¬ ((0 : Int) < (S : Int)) := by omega
                          go_wp2
                          go_meet
                          exact ⟨rfl, HKR⟩
                      case rest =>
                        clear HKR c9
                        obtain ⟨rfl, HKR⟩ := hcut
                        go_upto_block 15 with fail
                        go_cut [27, 29] from 293 to 302 (fun s27 s29 wx => s27 = .bool true ∧ Hid (Kp (fun _ => False) w6 wx))
                        case first =>
                          go_wp2_with fail
                          go_loopw [27, 295] (fun v27 v295 wr => ∃ q : Nat, v295 = .int .i64 q ∧ q ≤ I ∧ v27 = .bool false ∧ Hid (Kp (fun _ => False) w6 wr)) (fun _ v _ => E + 1 - (intOf v).toNat)
                          case atStart => exact ⟨0, rfl, Nat.zero_le _, rfl, HKR⟩
                          case round =>
                            clear HKR
                            obtain ⟨q, rfl, hq, rfl, HKR⟩ := hrel
                            have hqE : q < E := by omega
                            have hqz : (q : Int) < (E : Int) := by omega
                            obtain ⟨eb2, hla, ce⟩ := (HR6.out.keep HKR.out (fun _ _ => id)).at_ hqE
                            cases hla
                            by_cases he : q = I
                            · subst he
                              simp only [HH.out] at ce
                              have hsm := eql131_same H
                              go_wp2
                              go_meet
                              exact ⟨rfl, HKR⟩
                            · have o := HOD.out _ HKR.out
                              have hne : ¬ (hb (eps hb ov n q) = H) := fun h => by
                                rw [← HH.out] at h
                                have hq1 := flv_mem (lvf := kept hb ov) (k := n) (j := q) (by rw [← HE.out]; exact hqE)
                                have hq2 := flv_mem (lvf := kept hb ov) (k := n) (j := I) (by rw [← HE.out]; exact hI2)
                                have h3 := HG6.out.hj _ _ hq1.1 hq2.1 h
                                exact he (flv_inj (lvf := kept hb ov) (k := n) (by rw [← HE.out]; exact hqE) (by rw [← HE.out]; exact hI2) h3)
                              have hp2 := (o.hs I hI2).pl
                              simp only [HH.out] at hp2
                              have hsm := eql131 (some (hb (eps hb ov n q))) (some H) wr (fun b h => by cases h; exact (o.hs q hqE).pl) (fun b h => by cases h; exact hp2)
                              have hd : decide (some (hb (eps hb ov n q)) = some H) = false := decide_eq_false (fun h => hne (Option.some.inj h))
                              rw [hd] at hsm
                              simp only [pv] at hsm
                              clear o hp2 hd
                              go_wp2
                              go_roundw
                              case rel => exact ⟨q + 1, by go_num, by omega, rfl, HKR⟩
                              case measure => simp [intOf]; omega
                        case rest =>
                          clear HKR
                          obtain ⟨rfl, HKR⟩ := hcut
                          obtain ⟨c2, c3, c4, c5, c6, c7, c8, c9⟩ := HFA.out _ HKR.out
                          clear c2 c3 c4 c5 c6 c7 c8
                          go_wp2
                          go_roundw
                          case rel => exact ⟨k + 1, S + 1, ky, c, by go_num, by omega, by go_num, by omega, by omega, rfl, (fun _ => by rw [show S + 1 - 1 = t * 256 + k by omega, HI.out]; exact HKK.out), rfl, HC, HKR⟩
                          case measure => simp [intOf]; omega
                · have hklz : ¬ (k : Int) < (bl : Int) := by omega
                  go_wp2
                  go_meet
                  have e : k = bl := by omega
                  subst e
                  have e2 : S = T + k := by omega
                  subst e2
                  have hc := HC.out
                  subst hc
                  exact ⟨p, by push_cast; rfl, rfl, HP.out (by omega), rfl, HKR⟩
            case rest =>
              clear HKR HP
              obtain ⟨p, rfl, rfl, HP, rfl, HKR⟩ := hcut
              have c5 := (HOD.out _ HKR.out).b2 t hlt
              rw [HBL.out] at c5
              obtain ⟨cc, hcc⟩ : ∃ cc, cc = cnt (fun q => ttF (eps hb ov n (τ (t * 256 + q))) ≠ 0) bl := ⟨_, rfl⟩
              rw [← hcc] at c5 ⊢
              clear hcc
              go_wp2
              go_roundw
              case rel => exact ⟨t + 1, T + bl, p, by go_num, by omega, by go_num, (by rw [HB5.out]; show _ = _; omega), rfl, (fun _ => HP.out), HKR⟩
              case measure => simp [intOf]; omega
      · have hltz : ¬ (t : Int) < (NB : Int) := by omega
        go_wp2
        go_meet
        have e : T = E := by have := HT.out; have := HNB.out; omega
        subst e
        exact ⟨rfl, HKR⟩
  case rest =>
    obtain ⟨rfl, HKR⟩ := hcut
    go_wp2
    go_ret
    exact ⟨rfl, ((HG6.out.keep HKR.out).kp).below (Nat.le_refl _) (fun _ _ => id)⟩

end Go.Proofs.Ybulkaixg.Ord
