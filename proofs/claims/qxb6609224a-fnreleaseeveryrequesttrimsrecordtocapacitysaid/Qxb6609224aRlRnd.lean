import Derived.Test.Qxb6609224aRlEnd
import Derived.Test.Qxb6609224aRlInv
namespace Go.Proofs.Qxb6609224a.Rl
open Go.RowKit

set_option maxRecDepth 100000 in
set_option maxHeartbeats 4000000 in
theorem rndTail (cap0 en0 : Int) (bI oI cI bE oE cE bL oL cL K N : Nat) (I E L : List Int) (w : World) (hC : Ctx en0 bI oI bE oE bL oL K N I E L w) (rb pb mb cb fit most : Nat) (S0 : List Int) (wx : World) (hfit : fit ≤ K) (hfits : ∀ j, j < K → (E.getD j 0 ≤ cap0 ↔ j < fit))
    (hO : One w wx rb pb mb cb (mkD cap0 en0 I E (List.replicate K 0) K S0) (fun j => (S0.count (j : Int) : Int)) K) (hp : S0.Perm L) (hs : S0.Pairwise (· ≤ ·)) (ht : top S0 = most) (hm : most < K) {u5 u6 u7 u8 u9 u10 u13 u15 u18 u20 u21 u22 u24 u25 u26 u27 u28 u29 u30 u31 u32 u33 u34 u35 u36 u37 u38 u39 u40 u41 u42 u43 u44 u45 u46 u47 u48 u49 u50 u51 u52 u53 u54 u55 u56 u57 u58 u59 u60 u61 u62 u63 u64 u65 u66 u67 u68 u69 u70 u71 u72 u73 u74 u75 u76 u77 u78 u79 u80 u81 u82 u83 u84 u85 u86 u87 u88 u89 u90 u91 u92 u93 u94 u95 u96 u97 u98 u99 u100 u101 u102 u103 u104 u105 u106 u107 u108 u109 u110 u111 u112 u113 u114 u115 u116 u117 u118 u119 u120 u121 u122 u123 u124 u125 u126 u127 u128 u129 u130 u131 u132 u133 u134 u135 u136 u137 u138 u139 u140 u141 u142 u143 u144 u145 u146 u147 u148 u149 u150 u151 u152 u153 u154 u155 u156 u157 u158 u159 u160 u161 u162 u163 u164 u165 u166 u167 u168 u169 u170 u171 u172 u173 u174 u175 u176 u177 u178 u179 u180 u181 u182 u183 u184 u185 u186 u187 u188 u189 u190 u191 u192 u193 u194 u195 u196 u197 u198 u199 u200 u201 u202 u203 u204 u205 u206 u207 u208 u209 u210 u211 u212 u213 u214 u215 u216 u217 u218 u219 u220 u221 u222 u223 u224 u225 u226 u227 u228 u229 u230 u231 u232 u233 u234 u235 u236 u237 u238 u239 u240 u241 u242 u243 u244 u245 u246 u247 u248 u249 u250 u251 u252 u253 u254 u255 u256 u257 u258 u259 u260 u261 u262 u263 u264 u265 u266 u267 u268 u269 u270 u271 u272 u273 u274 u275 u276 u277 u278 u279 u280 u281 u282 u283 u284 u285 u286 u287 u288 u289 u290 u291 u292 u293 u294 u295 u296 u297 u298 u299 u300 u301 u302 u303 u304 u305 u306 u307 u308 u309 u310 u311 u312 u313 u314 u315 u316 u317 u318 u319 u320 u321 u322 u323 u324 u325 u326 u327 u328 u329 u330 u331 u332 u333 u334 u335 u336 u337 u338 u339 u340 u341 u342 u343 u344 u345 u346 u347 u348 u349 u350 u351 u352 u353 u354 u355 u356 u357 u358 u359 u360 u361 u362 u363 u364 u365 u366 u367 u368 u369 u370 u371 u372 u373 u374 u375 : Value} :
    Code.wp Try.prog (dropSeq 21 (bodyOf Try.f3.body)) (bodyPost Try.prog Try.f3 (fun e w' => e = .returned (.bool true) ∧ Below w.heap.size w w')) ⟨#[.int .i64 cap0, .int .u64 en0, .slice (some ⟨bI, oI, none⟩) K cI, .slice (some ⟨bE, oE, none⟩) K cE, .slice (some ⟨bL, oL, none⟩) N cL, u5, u6, u7, u8, u9, u10, .int .i64 K, .int .i64 N, u13, .int .i64 most, u15, .pointer (some ⟨rb, 0, none⟩), .pointer (some ⟨pb, 0, none⟩), u18, .slice (some ⟨cb, 0, none⟩) K K, u20, u21, u22, .int .i64 fit, u24, u25, u26, u27, u28, u29, u30, u31, u32, u33, u34, u35, u36, u37, u38, u39, u40, u41, u42, u43, u44, u45, u46, u47, u48, u49, u50, u51, u52, u53, u54, u55, u56, u57, u58, u59, u60, u61, u62, u63, u64, u65, u66, u67, u68, u69, u70, u71, u72, u73, u74, u75, u76, u77, u78, u79, u80, u81, u82, u83, u84, u85, u86, u87, u88, u89, u90, u91, u92, u93, u94, u95, u96, u97, u98, u99, u100, u101, u102, u103, u104, u105, u106, u107, u108, u109, u110, u111, u112, u113, u114, u115, u116, u117, u118, u119, u120, u121, u122, u123, u124, u125, u126, u127, u128, u129, u130, u131, u132, u133, u134, u135, u136, u137, u138, u139, u140, u141, u142, u143, u144, u145, u146, u147, u148, u149, u150, u151, u152, u153, u154, u155, u156, u157, u158, u159, u160, u161, u162, u163, u164, u165, u166, u167, u168, u169, u170, u171, u172, u173, u174, u175, u176, u177, u178, u179, u180, u181, u182, u183, u184, u185, u186, u187, u188, u189, u190, u191, u192, u193, u194, u195, u196, u197, u198, u199, u200, u201, u202, u203, u204, u205, u206, u207, u208, u209, u210, u211, u212, u213, u214, u215, u216, u217, u218, u219, u220, u221, u222, u223, u224, u225, u226, u227, u228, u229, u230, u231, u232, u233, u234, u235, u236, u237, u238, u239, u240, u241, u242, u243, u244, u245, u246, u247, u248, u249, u250, u251, u252, u253, u254, u255, u256, u257, u258, u259, u260, u261, u262, u263, u264, u265, u266, u267, u268, u269, u270, u271, u272, u273, u274, u275, u276, u277, u278, u279, u280, u281, u282, u283, u284, u285, u286, u287, u288, u289, u290, u291, u292, u293, u294, u295, u296, u297, u298, u299, u300, u301, u302, u303, u304, u305, u306, u307, u308, u309, u310, u311, u312, u313, u314, u315, u316, u317, u318, u319, u320, u321, u322, u323, u324, u325, u326, u327, u328, u329, u330, u331, u332, u333, u334, u335, u336, u337, u338, u339, u340, u341, u342, u343, u344, u345, u346, u347, u348, u349, u350, u351, u352, u353, u354, u355, u356, u357, u358, u359, u360, u361, u362, u363, u364, u365, u366, u367, u368, u369, u370, u371, u372, u373, u374, u375], []⟩ wx := by
  have HC : Hid (Ctx en0 bI oI bE oE bL oL K N I E L w) := hC
  have HFT : Hid (∀ j, j < K → (E.getD j 0 ≤ cap0 ↔ j < fit)) := hfits
  have hK1 := hC.hK1
  have hK2 := hC.hK2
  have hN1 := hC.hN1
  have hN2 := hC.hN2
  have iK1 : (1 : Int) ≤ K := by omega
  have iK2 : (K : Int) ≤ 65536 := by omega
  have iN1 : (1 : Int) ≤ N := by omega
  have iN2 : (N : Int) ≤ 4096 := by omega
  have iF : (fit : Int) ≤ K := by omega
  have HI0 : Hid (Inv w (wx.alloc (.cells (madeCells #[.int .u64 0] K) 22)) rb pb mb cb wx.heap.size cap0 en0 K I E L fit 0 K en0 S0 (List.replicate K 0)) := by
    refine ⟨(Rnd.start hO).congr (fun _ _ => rfl) (fun j hj => ?_), by simpa using hp, hs, by simp, Nat.le_refl _, hfit, by omega, fun h => by omega, rfl⟩
    rw [List.getD_eq_getElem?_getD]; simp [hj]
  have hmk := run_make_row' (P := Try.prog) 35 22 (.int .u64 0) 8 Try.underlying35 info22 rfl .i64 .i64 K (by omega) (by omega) wx
  have HT : Hid (top S0 = most) := ht
  clear hC hO hp hs ht hfits
  conv => arg 2; whnf
  go_upto_block 14 with fail
  clear hmk
  generalize wx.alloc (.cells (madeCells #[.int .u64 0] K) 22) = wy at *
  generalize wx.heap.size = ub at *
  go_cut [26, 27] from 234 to 329 (fun _ _ wz => ∃ (en : Int) (U : List Int), Ends w wz rb pb mb (mkD cap0 en I E U fit []) ub U K)
  case first =>
    go_wp2_with fail
    go_loopg [26, 27] N (fun g s26 s27 wr => ∃ (t B : Nat) (en : Int) (S U : List Int), s26 = .int .i64 (top S) ∧ s27 = .int .i64 t ∧ t ≤ N ∧ N - t ≤ g ∧ Inv w wr rb pb mb cb ub cap0 en0 K I E L fit t B en S U)
    case atStart => exact ⟨0, K, en0, S0, List.replicate K 0, by rw [HT.out], rfl, Nat.zero_le _, by omega, HI0.out⟩
    case round =>
      obtain ⟨t, B, en, S, U, rfl, rfl, htN, htg, hinv⟩ := hrel
      have HV : Hid (Inv w wr rb pb mb cb ub cap0 en0 K I E L fit t B en S U) := hinv
      clear hinv HI0 HT
      by_cases htz : t = N
      · have htz' : ¬ (t : Int) < N := by omega
        go_wp2_with fail
        go_meet
        have hv := HV.out
        have hS : S = [] := by
          have := hv.perm
          rw [htz, List.drop_eq_nil_of_le (by rw [HC.out.hLl]; exact Nat.le_refl _)] at this
          exact List.Perm.eq_nil this
        subst hS
        have hB : B = fit := by have := hv.hBt (by omega); simp [top] at this; omega
        subst hB
        exact ⟨en, U, hv.rnd.ends⟩
      · have htz' : (t : Int) < N := by omega
        obtain ⟨i, hi⟩ : ∃ i : Nat, L.getD t 0 = i := ⟨(L.getD t 0).toNat, by have := HC.out.hLr t (by omega); omega⟩
        have HM : Hid (Mid w wr rb pb mb cb ub cap0 K N I E B en S U i) := HV.out.mid HC.out (by omega) i hi
        have HLI : Hid (L.getD t 0 = i) := hi
        have hx1 := HM.out.c1
        have hx2 := HM.out.c2
        have hiK := HM.out.iK
        have iiK : (i : Int) < K := by omega
        have ht1 := HM.out.t1
        have ht2 := HM.out.t2
        have l0 := in_cell HV.out.rnd.2.1 (HC.out.hL t (by omega))
        rw [hi] at l0
        have c0 : wr.cell? ⟨cb, i, none⟩ = some (.int .i64 ((S.count (i : Int) : Nat) : Int)) := HV.out.rnd.2.2.1.cell hiK
        have f0 := HV.out.rnd.2.2.1.frozen i
        have HR1 : Hid (Rnd w (wr.setCell ⟨cb, i, none⟩ (.int .i64 ((S.count (i : Int) : Int) - 1))) rb pb mb cb ub (mkD cap0 en I E U B S) (fun j => ((drop1 S i).count (j : Int) : Int)) (fun j => U.getD j 0) K) := HM.out.rnd
        have H17 : Hid (∀ (m : Nat) (u : Int), (m : Int) = max (fit : Int) (top (drop1 S i) + 1) → u = IntKind.u64.wrap (en0 + ((t + 1 : Nat) : Int)) → Calls Try.prog 17 #[.pointer (some ⟨rb, 0, none⟩), .pointer (some ⟨pb, 0, none⟩), .int .i64 i] ((wr.setCell ⟨cb, i, none⟩ (.int .i64 ((S.count (i : Int) : Int) - 1))).setCell ⟨ub, i, none⟩ (.int .u64 u)) fun e w' => e = .returned (.int .i64 (shared E i (top (drop1 S i)))) ∧ Inv w w' rb pb mb cb ub cap0 en0 K I E L fit (t + 1) m u (drop1 S i) (U.set i u)) :=
          fun m u hm hu => HV.out.rel HC.out HFT.out (by omega) i m hi hm u hu
        have hxN : ((S.count (i : Int) : Nat) : Int) ≤ N := by omega
        have hx1' : (1 : Int) ≤ ((S.count (i : Int) : Nat) : Int) := by omega
        clear hi hx1 hx2
        generalize ((S.count (i : Int) : Nat) : Int) = x at *
        generalize hto : top S = h0 at *
        have HTO : Hid (top S = h0) := hto
        clear hto
        go_upto_block 16 with fail
        clear l0 c0 f0
        generalize wr.setCell ⟨cb, i, none⟩ (.int .i64 (x - 1)) = w1 at *
        go_cut [26] from 249 to 259 (fun s26 wz => w1 = wz ∧ s26 = .int .i64 (top (drop1 S i)))
        case first =>
          go_wp2_with fail
          go_loopg [26] (h0 + 1).toNat (fun g s26 wz => w1 = wz ∧ ∃ h : Int, s26 = .int .i64 h ∧ -1 ≤ h ∧ h < K ∧ (h + 1).toNat ≤ g ∧ ∀ y ∈ drop1 S i, y ≤ h)
          case atStart => exact ⟨rfl, h0, rfl, ht1, ht2, Nat.le_refl _, fun y hy => by rw [← HTO.out]; exact (HM.out.range y hy).2.2⟩
          case round =>
            obtain ⟨rfl, h, rfl, hh1, hh2, hhg, hall⟩ := hrel
            have HA : Hid (∀ y ∈ drop1 S i, y ≤ h) := hall
            clear hall
            by_cases hneg : h < 0
            · have hneg' : ¬ 0 ≤ h := by omega
              have hd : decide (0 ≤ h) = false := decide_eq_false hneg'
              go_wp2_with fail
              go_meet
              refine ⟨rfl, ?_⟩
              rw [top_is (drop1 S i) HM.out.sorted (fun y hy => (HM.out.range y hy).1) h hh1 (fun hh => by omega) HA.out]
            · obtain ⟨n, rfl⟩ := Int.eq_ofNat_of_zero_le (show 0 ≤ h by omega)
              have hnK : n < K := by omega
              have c1 : w1.cell? ⟨cb, n, none⟩ = some (.int .i64 (((drop1 S i).count (n : Int) : Nat) : Int)) := HR1.out.2.2.1.cell hnK
              have hd : decide ((0 : Int) ≤ (n : Int)) = true := decide_eq_true (by omega)
              by_cases hz : (drop1 S i).count (n : Int) = 0
              · have HZ : Hid ((drop1 S i).count (n : Int) = 0) := hz
                rw [hz] at c1
                clear hz
                go_wp2_with fail
                go_roundg n
                case measure => omega
                case rel =>
                  refine ⟨rfl, (n : Int) - 1, rfl, by omega, by omega, by omega, fun y hy => ?_⟩
                  have h1 := HA.out y hy
                  have h2 : y ≠ (n : Int) := fun e => List.count_eq_zero.1 HZ.out (e ▸ hy)
                  omega
              · have HZ : Hid ((n : Int) ∈ drop1 S i) := List.count_pos_iff.1 (Nat.pos_of_ne_zero hz)
                have hz' : ¬ (((drop1 S i).count (n : Int) : Nat) : Int) = 0 := by omega
                clear hz
                generalize (((drop1 S i).count (n : Int) : Nat) : Int) = z at c1 hz'
                go_wp2_with fail
                go_meet
                refine ⟨rfl, ?_⟩
                rw [top_is (drop1 S i) HM.out.sorted (fun y hy => (HM.out.range y hy).1) (n : Int) (by omega) (fun _ => HZ.out) HA.out]
        case rest =>
          obtain ⟨rfl, rfl⟩ := hcut
          have hh1 : -1 ≤ top (drop1 S i) := top_ge _ (fun y hy => (HM.out.range y hy).1)
          have hh2 : top (drop1 S i) < K := by
            by_cases hz : 0 ≤ top (drop1 S i)
            · exact (HM.out.range _ (top_mem _ hz)).2.1
            · omega
          have HEc : Hid (∀ j, j < K → w1.cell? ⟨bE, oE + j, none⟩ = some (.int .i64 (E.getD j 0))) := fun j hj => in_cell HR1.out.2.1 (HC.out.hE j hj)
          have f1 := HR1.out.2.2.2.1.frozen i
          have c1 : w1.cell? ⟨ub, i, none⟩ = some (.int .u64 (U.getD i 0)) := HR1.out.2.2.2.1.cell hiK
          have HF1 : Hid (w1.frozen? ⟨ub, i, none⟩ = false) := f1
          have HC1 : Hid (w1.cell? ⟨ub, i, none⟩ = some (.int .u64 (U.getD i 0))) := c1
          clear f1 c1 HR1 ht1 ht2 HTO
          generalize hth : top (drop1 S i) = h at *
          have HH : Hid (top (drop1 S i) = h) := hth
          clear hth
          go_upto_if 261 with fail
          go_cut [29] from 260 to 272 (fun s29 wz => w1 = wz ∧ s29 = .int .i64 (shared E i h))
          case first =>
            by_cases hneg : h < 0
            · have hneg' : ¬ 0 ≤ h := by omega
              have hd : decide (0 ≤ h) = false := decide_eq_false hneg'
              go_wp2_with fail
              go_meet
              exact ⟨rfl, by unfold shared; rw [if_neg (show ¬ 0 ≤ h by omega)]⟩
            · obtain ⟨n, rfl⟩ := Int.eq_ofNat_of_zero_le (show 0 ≤ h by omega)
              have hd : decide ((0 : Int) ≤ (n : Int)) = true := decide_eq_true (by omega)
              have e0 := HEc.out n (by omega)
              generalize hv0 : E.getD n 0 = v0 at e0
              have HV0 : Hid (E.getD n 0 = v0) := hv0
              clear hv0
              by_cases hin : i < n
              · have hin' : (i : Int) < n := by omega
                have e1 := HEc.out i (by omega)
                generalize hv1 : E.getD i 0 = v1 at e1
                have HV1 : Hid (E.getD i 0 = v1) := hv1
                clear hv1
                go_wp2_with fail
                go_meet
                refine ⟨rfl, ?_⟩
                unfold shared
                rw [if_pos (by omega), show (min (i : Int) (n : Int)).toNat = i by omega, HV1.out]
              · have hin' : ¬ (i : Int) < n := by omega
                go_wp2_with fail
                go_meet
                refine ⟨rfl, ?_⟩
                unfold shared
                rw [if_pos (by omega), show (min (i : Int) (n : Int)).toNat = n by omega, HV0.out]
          case rest =>
            obtain ⟨rfl, rfl⟩ := hcut
            generalize shared E i h = sh at *
            go_upto_if 277 with fail
            go_cut [30] from 273 to 279 (fun s30 wz => w1 = wz ∧ ∃ m : Nat, s30 = .int .i64 m ∧ (m : Int) = max (fit : Int) (h + 1) ∧ m ≤ K)
            case first =>
              by_cases hk : (fit : Int) < h + 1
              · have hk2 : ((h + 1).toNat : Int) = h + 1 := by omega
                go_wp2_with fail
                go_meet
                exact ⟨rfl, (h + 1).toNat, by rw [hk2], by omega, by omega⟩
              · have hk' : ¬ (fit : Int) < h + 1 := hk
                go_wp2_with fail
                go_meet
                exact ⟨rfl, fit, rfl, by omega, hfit⟩
            case rest =>
              obtain ⟨rfl, m, rfl, hm1, hmK⟩ := hcut
              have HM1 : Hid ((m : Int) = max (fit : Int) (h + 1)) := hm1
              clear hm1
              go_upto_if 281 with fail
              go_cut [31] from 280 to 286 (fun s31 wz => w1 = wz ∧ s31 = .int .i64 (if 0 < m then E.getD (m - 1) 0 else 0))
              case first =>
                by_cases hm0 : m = 0
                · subst hm0
                  go_wp2_with fail
                  go_meet
                  exact ⟨rfl, rfl⟩
                · have hm0' : (0 : Int) < m := by omega
                  have e0 := HEc.out (m - 1) (by omega)
                  generalize hv0 : E.getD (m - 1) 0 = v0 at e0
                  have HV0 : Hid (E.getD (m - 1) 0 = v0) := hv0
                  clear hv0
                  have em : ((m - 1 : Nat) : Int) = (m : Int) - 1 := by omega
                  have em2 : ((m : Int) - 1).toNat = m - 1 := by omega
                  have hm1' : (1 : Int) ≤ m := by omega
                  have imK : (m : Int) ≤ K := by omega
                  go_wp2_with fail
                  go_meet
                  exact ⟨rfl, by rw [if_pos (by omega), HV0.out]⟩
              case rest =>
                obtain ⟨rfl, rfl⟩ := hcut
                have HRD : Hid (∀ (wz : World) (u : Int), Inv w wz rb pb mb cb ub cap0 en0 K I E L fit (t + 1) m u (drop1 S i) (U.set i u) →
                    Calls Try.prog 18 #[.pointer (some ⟨rb, 0, none⟩)] wz (fun e w' => e = .returned (.int .u64 u) ∧ wz = w') ∧ Calls Try.prog 19 #[.pointer (some ⟨pb, 0, none⟩)] wz (fun e w' => e = .returned (.int .i64 m) ∧ wz = w') ∧
                    Calls Try.prog 20 #[.pointer (some ⟨rb, 0, none⟩)] wz (fun e w' => e = .returned (.int .i64 (if 0 < m then E.getD (m - 1) 0 else 0)) ∧ wz = w') ∧ Calls Try.prog 21 #[.pointer (some ⟨pb, 0, none⟩)] wz (fun e w' => e = .returned (.int .i64 ((N : Int) - t - 1)) ∧ wz = w')) := by
                  intro wz u hv
                  have := hv.reads
                  rw [show ((L.length - (t + 1) : Nat) : Int) = (N : Int) - t - 1 by have := HC.out.hLl; omega] at this
                  exact this
                generalize (if 0 < m then E.getD (m - 1) 0 else 0) = tk at *
                go_upto_region 75 with fail
                have hu : IntKind.u64.wrap (IntKind.u64.wrap (en0 + (t : Int)) + 1) = IntKind.u64.wrap (en0 + ((t + 1 : Nat) : Int)) := by
                  rw [wrap_step]
                  congr 1
                  omega
                generalize IntKind.u64.wrap (IntKind.u64.wrap (en0 + (t : Int)) + 1) = u at *
                have H17' : Hid (Calls Try.prog 17 #[.pointer (some ⟨rb, 0, none⟩), .pointer (some ⟨pb, 0, none⟩), .int .i64 i] (w1.setCell ⟨ub, i, none⟩ (.int .u64 u)) fun e w' => e = .returned (.int .i64 sh) ∧ Inv w w' rb pb mb cb ub cap0 en0 K I E L fit (t + 1) m u (drop1 S i) (U.set i u)) := H17.out m u HM1.out hu
                have f1 := HF1.out
                have c1 := HC1.out
                clear hu H17 HF1 HC1 HEc
                generalize U.getD i 0 = u0 at c1
                go_wp2_with (first | (go_at_call 17; refine H17'.out.mono ?_; rintro e w4 ⟨rfl, h4⟩; have HV4 : Hid (Inv w w4 rb pb mb cb ub cap0 en0 K I E L fit (t + 1) m u (drop1 S i) (U.set i u)) := h4; clear h4) | (go_at_call 18; refine (HRD.out _ _ HV4.out).1.mono ?_; rintro e w5 ⟨rfl, rfl⟩) | (go_at_call 19; refine (HRD.out _ _ HV4.out).2.1.mono ?_; rintro e w5 ⟨rfl, rfl⟩) | (go_at_call 20; refine (HRD.out _ _ HV4.out).2.2.1.mono ?_; rintro e w5 ⟨rfl, rfl⟩) | (go_at_call 21; refine (HRD.out _ _ HV4.out).2.2.2.mono ?_; rintro e w5 ⟨rfl, rfl⟩))
                go_roundg (N - (t + 1))
                case measure => omega
                case rel => exact ⟨t + 1, m, u, drop1 S i, U.set i u, by rw [HH.out], by simp, by omega, Nat.le_refl _, HV4.out⟩
  case rest =>
    obtain ⟨en, U, hE⟩ := hcut
    go_step
    exact endTail cap0 en0 bI oI cI bE oE cE bL oL cL K N I E L w HC.out rb pb mb ub K fit en U wc hfit hE
end Go.Proofs.Qxb6609224a.Rl
