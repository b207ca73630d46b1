import Derived.Test.Qxb6609224aRlTail
namespace Go.Proofs.Qxb6609224a.Rl
open Go.RowKit

set_option maxRecDepth 100000 in
set_option maxHeartbeats 4000000 in
theorem endTail (cap0 en0 : Int) (bI oI cI bE oE cE bL oL cL K N : Nat) (I E L : List Int) (w : World) (hC : Ctx en0 bI oI bE oE bL oL K N I E L w) (rb pb mb ub cU fit : Nat) (en : Int) (U : List Int) (wx : World) (hfit : fit ≤ K)
    (hEn : Ends w wx rb pb mb (mkD cap0 en I E U fit []) ub U K) {u5 u6 u7 u8 u9 u10 u13 u14 u15 u18 u19 u20 u21 u22 u24 u26 u27 u28 u29 u30 u31 u32 u33 u34 u35 u36 u37 u38 u39 u40 u41 u42 u43 u44 u45 u46 u47 u48 u49 u50 u51 u52 u53 u54 u55 u56 u57 u58 u59 u60 u61 u62 u63 u64 u65 u66 u67 u68 u69 u70 u71 u72 u73 u74 u75 u76 u77 u78 u79 u80 u81 u82 u83 u84 u85 u86 u87 u88 u89 u90 u91 u92 u93 u94 u95 u96 u97 u98 u99 u100 u101 u102 u103 u104 u105 u106 u107 u108 u109 u110 u111 u112 u113 u114 u115 u116 u117 u118 u119 u120 u121 u122 u123 u124 u125 u126 u127 u128 u129 u130 u131 u132 u133 u134 u135 u136 u137 u138 u139 u140 u141 u142 u143 u144 u145 u146 u147 u148 u149 u150 u151 u152 u153 u154 u155 u156 u157 u158 u159 u160 u161 u162 u163 u164 u165 u166 u167 u168 u169 u170 u171 u172 u173 u174 u175 u176 u177 u178 u179 u180 u181 u182 u183 u184 u185 u186 u187 u188 u189 u190 u191 u192 u193 u194 u195 u196 u197 u198 u199 u200 u201 u202 u203 u204 u205 u206 u207 u208 u209 u210 u211 u212 u213 u214 u215 u216 u217 u218 u219 u220 u221 u222 u223 u224 u225 u226 u227 u228 u229 u230 u231 u232 u233 u234 u235 u236 u237 u238 u239 u240 u241 u242 u243 u244 u245 u246 u247 u248 u249 u250 u251 u252 u253 u254 u255 u256 u257 u258 u259 u260 u261 u262 u263 u264 u265 u266 u267 u268 u269 u270 u271 u272 u273 u274 u275 u276 u277 u278 u279 u280 u281 u282 u283 u284 u285 u286 u287 u288 u289 u290 u291 u292 u293 u294 u295 u296 u297 u298 u299 u300 u301 u302 u303 u304 u305 u306 u307 u308 u309 u310 u311 u312 u313 u314 u315 u316 u317 u318 u319 u320 u321 u322 u323 u324 u325 u326 u327 u328 u329 u330 u331 u332 u333 u334 u335 u336 u337 u338 u339 u340 u341 u342 u343 u344 u345 u346 u347 u348 u349 u350 u351 u352 u353 u354 u355 u356 u357 u358 u359 u360 u361 u362 u363 u364 u365 u366 u367 u368 u369 u370 u371 u372 u373 u374 u375 : Value} :
    Code.wp Try.prog (dropSeq 24 (bodyOf Try.f3.body)) (bodyPost Try.prog Try.f3 (fun e w' => e = .returned (.bool true) ∧ Below w.heap.size w w')) ⟨#[.int .i64 cap0, .int .u64 en0, .slice (some ⟨bI, oI, none⟩) K cI, .slice (some ⟨bE, oE, none⟩) K cE, .slice (some ⟨bL, oL, none⟩) N cL, u5, u6, u7, u8, u9, u10, .int .i64 K, .int .i64 N, u13, u14, u15, .pointer (some ⟨rb, 0, none⟩), .pointer (some ⟨pb, 0, none⟩), u18, u19, u20, u21, u22, .int .i64 fit, u24, .slice (some ⟨ub, 0, none⟩) K cU, u26, u27, u28, u29, u30, u31, u32, u33, u34, u35, u36, u37, u38, u39, u40, u41, u42, u43, u44, u45, u46, u47, u48, u49, u50, u51, u52, u53, u54, u55, u56, u57, u58, u59, u60, u61, u62, u63, u64, u65, u66, u67, u68, u69, u70, u71, u72, u73, u74, u75, u76, u77, u78, u79, u80, u81, u82, u83, u84, u85, u86, u87, u88, u89, u90, u91, u92, u93, u94, u95, u96, u97, u98, u99, u100, u101, u102, u103, u104, u105, u106, u107, u108, u109, u110, u111, u112, u113, u114, u115, u116, u117, u118, u119, u120, u121, u122, u123, u124, u125, u126, u127, u128, u129, u130, u131, u132, u133, u134, u135, u136, u137, u138, u139, u140, u141, u142, u143, u144, u145, u146, u147, u148, u149, u150, u151, u152, u153, u154, u155, u156, u157, u158, u159, u160, u161, u162, u163, u164, u165, u166, u167, u168, u169, u170, u171, u172, u173, u174, u175, u176, u177, u178, u179, u180, u181, u182, u183, u184, u185, u186, u187, u188, u189, u190, u191, u192, u193, u194, u195, u196, u197, u198, u199, u200, u201, u202, u203, u204, u205, u206, u207, u208, u209, u210, u211, u212, u213, u214, u215, u216, u217, u218, u219, u220, u221, u222, u223, u224, u225, u226, u227, u228, u229, u230, u231, u232, u233, u234, u235, u236, u237, u238, u239, u240, u241, u242, u243, u244, u245, u246, u247, u248, u249, u250, u251, u252, u253, u254, u255, u256, u257, u258, u259, u260, u261, u262, u263, u264, u265, u266, u267, u268, u269, u270, u271, u272, u273, u274, u275, u276, u277, u278, u279, u280, u281, u282, u283, u284, u285, u286, u287, u288, u289, u290, u291, u292, u293, u294, u295, u296, u297, u298, u299, u300, u301, u302, u303, u304, u305, u306, u307, u308, u309, u310, u311, u312, u313, u314, u315, u316, u317, u318, u319, u320, u321, u322, u323, u324, u325, u326, u327, u328, u329, u330, u331, u332, u333, u334, u335, u336, u337, u338, u339, u340, u341, u342, u343, u344, u345, u346, u347, u348, u349, u350, u351, u352, u353, u354, u355, u356, u357, u358, u359, u360, u361, u362, u363, u364, u365, u366, u367, u368, u369, u370, u371, u372, u373, u374, u375], []⟩ wx := by
  have HC : Hid (Ctx en0 bI oI bE oE bL oL K N I E L w) := hC
  have HEn : Hid (Ends w wx rb pb mb (mkD cap0 en I E U fit []) ub U K) := hEn
  obtain ⟨⟨F, hst, hF⟩, hbel, hU⟩ := hEn
  have hK1 := hC.hK1
  have hK2 := hC.hK2
  have iK1 : (1 : Int) ≤ K := by omega
  have iK2 : (K : Int) ≤ 65536 := by omega
  have iF : (fit : Int) ≤ K := by omega
  have H19 : Hid (Calls Try.prog 19 #[.pointer (some ⟨pb, 0, none⟩)] wx fun e w' => e = .returned (.int .i64 fit) ∧ wx = w') := by
    have := readLen hst
    rw [show (mkD cap0 en I E U fit []).blocks.length = fit from mk_length _ _ _ _] at this
    exact this
  have H22 : Hid (Calls Try.prog 22 #[.pointer (some ⟨rb, 0, none⟩)] wx fun e w' => e = .returned (.int .i64 (if 0 < fit then 1 else 0)) ∧ wx = w') := by
    have := readLeaves hst
    have e : (mkD cap0 en I E U fit []).leaf = decide (0 < fit) := by
      show decide (top [] < (fit : Int) - 1) = _
      simp [top]; omega
    rw [e] at this
    simp only [decide_eq_true_eq] at this
    exact this
  have H23 : Hid (Calls Try.prog 23 #[.pointer (some ⟨rb, 0, none⟩)] wx fun e w' => e = .returned (.int .i64 (if 0 < fit then 0 else 1)) ∧ wx = w') := by
    have := readSpare hst
    have e : (((mkD cap0 en I E U fit []).spare : Nat) : Int) = (if 0 < fit then 0 else 1) := by
      show (((if fit = 0 then 1 else 0 : Nat)) : Int) = _
      by_cases h : fit = 0
      · rw [if_pos h, if_neg (by omega)]; rfl
      · rw [if_neg h, if_pos (by omega)]; rfl
    rw [e] at this
    exact this
  clear hst hF hbel hU hC
  conv => arg 2; whnf
  go_upto_if 331 with fail
  go_cut [34, 35] from 330 to 331 (fun s34 s35 wy => wx = wy ∧ s34 = .int .i64 (if 0 < fit then 1 else 0) ∧ s35 = .int .i64 (if 0 < fit then 0 else 1))
  case first =>
    by_cases hz : fit = 0
    · subst hz
      go_wp2_with fail
      go_meet
      exact ⟨rfl, rfl, rfl⟩
    · have hz' : 0 < (fit : Int) := by omega
      go_wp2_with fail
      go_meet
      have hz2 : 0 < fit := by omega
      exact ⟨rfl, by rw [if_pos hz2], by rw [if_pos hz2]⟩
  case rest =>
    obtain ⟨rfl, rfl, rfl⟩ := hcut
    generalize (if 0 < fit then (1 : Int) else 0) = lf at *
    generalize (if 0 < fit then (0 : Int) else 1) = sp at *
    go_upto_block 18 with (first | (go_at_call 19; refine H19.out.mono ?_; rintro e w' ⟨rfl, rfl⟩) | (go_at_call 22; refine H22.out.mono ?_; rintro e w' ⟨rfl, rfl⟩) | (go_at_call 23; refine H23.out.mono ?_; rintro e w' ⟨rfl, rfl⟩))
    clear H19 H22 H23
    go_cut [36] from 348 to 362 (fun _ wy => Ends w wy rb pb mb (mkD cap0 en I E U fit []) ub U K)
    case first =>
      go_wp2_with fail
      go_loopg [36] K (fun g s36 wy => ∃ j : Nat, s36 = .int .i64 j ∧ j ≤ K ∧ K - j ≤ g ∧ Ends w wy rb pb mb (mkD cap0 en I E U fit []) ub U K)
      case atStart => exact ⟨0, rfl, Nat.zero_le _, by omega, HEn.out⟩
      case round =>
        obtain ⟨j, rfl, hjK, hjg, hen⟩ := hrel
        clear HEn
        have HE : Hid (Ends w wr rb pb mb (mkD cap0 en I E U fit []) ub U K) := hen
        clear hen
        by_cases hjz : j = K
        · have hjz' : ¬ (j : Int) < K := by omega
          go_wp2_with fail
          go_meet
          exact HE.out
        · have hjz' : (j : Int) < K := by omega
          have i0 := in_cell HE.out.2.1 (HC.out.hI j (by omega))
          have H24 : Hid (Calls Try.prog 24 #[.pointer (some ⟨rb, 0, none⟩), .int .i64 (I.getD j 0)] wr fun e w' => e = .returned (.bool (decide ((j : Int) < (fit : Int)))) ∧ Ends w w' rb pb mb (mkD cap0 en I E U fit []) ub U K) := by
            obtain ⟨⟨F, hst, hF⟩, hbel, hU⟩ := HE.out
            have hl := HC.out.hIl
            refine (hasBlock (I.getD j 0) hst (keys_nodup I fit (by omega) HC.out.hnd)).mono ?_
            rintro e w' ⟨rfl, hb⟩
            refine ⟨?_, HE.out.below hb⟩
            have hk := keys_mem I fit j (by omega) (by omega) HC.out.hnd
            rw [show (mkD cap0 en I E U fit []).keys = (List.range fit).map (fun j => I.getD j 0) from rfl]
            congr 2
            rw [decide_eq_decide, hk]
            omega
          generalize I.getD j 0 = id at i0 H24
          by_cases hjf : (j : Int) < fit
          · go_wp2_with (go_at_call 24; refine H24.out.mono ?_; rintro e w4 ⟨rfl, he4⟩; have HE4 : Hid (Ends w w4 rb pb mb (mkD cap0 en I E U fit []) ub U K) := he4; clear he4)
            go_roundg (K - (j + 1))
            case measure => omega
            case rel => exact ⟨j + 1, by simp, by omega, Nat.le_refl _, HE4.out⟩
          · have hjf' : ¬ (j : Int) < fit := hjf
            go_wp2_with (go_at_call 24; refine H24.out.mono ?_; rintro e w4 ⟨rfl, he4⟩; have HE4 : Hid (Ends w w4 rb pb mb (mkD cap0 en I E U fit []) ub U K) := he4; clear he4)
            go_roundg (K - (j + 1))
            case measure => omega
            case rel => exact ⟨j + 1, by simp, by omega, Nat.le_refl _, HE4.out⟩
    case rest =>
      have HE : Hid (Ends w wc rb pb mb (mkD cap0 en I E U fit []) ub U K) := hcut
      clear hcut HEn
      go_upto_block 20 with fail
      go_cut [37] from 363 to 375 (fun _ wy => Ends w wy rb pb mb (mkD cap0 en I E U fit []) ub U K)
      case first =>
        go_wp2_with fail
        go_loopg [37] fit (fun g s37 wy => ∃ j : Nat, s37 = .int .i64 j ∧ j ≤ fit ∧ fit - j ≤ g ∧ Ends w wy rb pb mb (mkD cap0 en I E U fit []) ub U K)
        case atStart => exact ⟨0, rfl, Nat.zero_le _, by omega, HE.out⟩
        case round =>
          obtain ⟨j, rfl, hjK, hjg, hen⟩ := hrel
          clear HE
          have HE : Hid (Ends w wr rb pb mb (mkD cap0 en I E U fit []) ub U K) := hen
          clear hen
          by_cases hjz : j = fit
          · have hjz' : ¬ (j : Int) < fit := by omega
            go_wp2_with fail
            go_meet
            exact HE.out
          · have hjz' : (j : Int) < fit := by omega
            have hjK' : (j : Int) < K := by omega
            have c0 := HE.out.2.2 j (by omega)
            have H25 : Hid (∀ q, Calls Try.prog 25 #[.pointer (some ⟨pb, 0, none⟩), .int .i64 j] (wr.drewN q) fun e w' => e = .returned (.int .u64 (U.getD j 0)) ∧ wr.drewN q = w') := by
              intro q
              obtain ⟨⟨F, hst, hF⟩, hbel, hU⟩ := HE.out.drewN q
              have hl : j < (mkD cap0 en I E U fit []).blocks.length := by show j < (mk I E U fit).length; rw [mk_length]; omega
              have := readUsed j hst hl
              rw [show (mkD cap0 en I E U fit []).blocks[j]'hl = (I.getD j 0, E.getD j 0, U.getD j 0) from mk_get I E U fit j (by omega)] at this
              exact this
            generalize U.getD j 0 = x at c0 H25
            go_upto_region 94 with fail
            go_cut [375] from 368 to 375 (fun s375 wy => s375 = .bool false ∧ ∃ q, wy = wr.drewN q)
            case first =>
              go_region_with (go_at_call 25; refine (H25.out _).mono ?_; rintro e w4 ⟨rfl, rfl⟩)
              all_goals (go_wp2_with fail; go_meet)
              all_goals exact ⟨rfl, _, rfl⟩
            case rest =>
              obtain ⟨rfl, q, rfl⟩ := hcut
              go_wp2_with fail
              go_roundg (fit - (j + 1))
              case measure => omega
              case rel => exact ⟨j + 1, by simp, by omega, Nat.le_refl _, HE.out.drewN q⟩
      case rest =>
        clear HE
        have HB : Hid (Below w.heap.size w wc) := hcut.2.1
        clear hcut
        go_wp2_with fail
        go_ret
        exact ⟨rfl, HB.out⟩
end Go.Proofs.Qxb6609224a.Rl
