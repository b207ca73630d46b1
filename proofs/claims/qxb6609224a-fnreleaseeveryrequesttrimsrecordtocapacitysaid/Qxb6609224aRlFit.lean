import Derived.Test.Qxb6609224aRlRnd
namespace Go.Proofs.Qxb6609224a.Rl
open Go.RowKit

set_option maxRecDepth 100000 in
set_option maxHeartbeats 4000000 in
theorem fitTail (cap0 en0 : Int) (bI oI cI bE oE cE bL oL cL K N : Nat) (I E L : List Int) (w : World) (hC : Ctx en0 bI oI bE oE bL oL K N I E L w) (rb pb mb cb most : Nat) (S0 : List Int) (wx : World)
    (hO : One w wx rb pb mb cb (mkD cap0 en0 I E (List.replicate K 0) K S0) (fun j => (S0.count (j : Int) : Int)) K) (hp : S0.Perm L) (hs : S0.Pairwise (· ≤ ·)) (ht : top S0 = most) (hm : most < K) {u5 u6 u7 u8 u9 u10 u13 u15 u18 u20 u21 u22 u23 u24 u25 u26 u27 u28 u29 u30 u31 u32 u33 u34 u35 u36 u37 u38 u39 u40 u41 u42 u43 u44 u45 u46 u47 u48 u49 u50 u51 u52 u53 u54 u55 u56 u57 u58 u59 u60 u61 u62 u63 u64 u65 u66 u67 u68 u69 u70 u71 u72 u73 u74 u75 u76 u77 u78 u79 u80 u81 u82 u83 u84 u85 u86 u87 u88 u89 u90 u91 u92 u93 u94 u95 u96 u97 u98 u99 u100 u101 u102 u103 u104 u105 u106 u107 u108 u109 u110 u111 u112 u113 u114 u115 u116 u117 u118 u119 u120 u121 u122 u123 u124 u125 u126 u127 u128 u129 u130 u131 u132 u133 u134 u135 u136 u137 u138 u139 u140 u141 u142 u143 u144 u145 u146 u147 u148 u149 u150 u151 u152 u153 u154 u155 u156 u157 u158 u159 u160 u161 u162 u163 u164 u165 u166 u167 u168 u169 u170 u171 u172 u173 u174 u175 u176 u177 u178 u179 u180 u181 u182 u183 u184 u185 u186 u187 u188 u189 u190 u191 u192 u193 u194 u195 u196 u197 u198 u199 u200 u201 u202 u203 u204 u205 u206 u207 u208 u209 u210 u211 u212 u213 u214 u215 u216 u217 u218 u219 u220 u221 u222 u223 u224 u225 u226 u227 u228 u229 u230 u231 u232 u233 u234 u235 u236 u237 u238 u239 u240 u241 u242 u243 u244 u245 u246 u247 u248 u249 u250 u251 u252 u253 u254 u255 u256 u257 u258 u259 u260 u261 u262 u263 u264 u265 u266 u267 u268 u269 u270 u271 u272 u273 u274 u275 u276 u277 u278 u279 u280 u281 u282 u283 u284 u285 u286 u287 u288 u289 u290 u291 u292 u293 u294 u295 u296 u297 u298 u299 u300 u301 u302 u303 u304 u305 u306 u307 u308 u309 u310 u311 u312 u313 u314 u315 u316 u317 u318 u319 u320 u321 u322 u323 u324 u325 u326 u327 u328 u329 u330 u331 u332 u333 u334 u335 u336 u337 u338 u339 u340 u341 u342 u343 u344 u345 u346 u347 u348 u349 u350 u351 u352 u353 u354 u355 u356 u357 u358 u359 u360 u361 u362 u363 u364 u365 u366 u367 u368 u369 u370 u371 u372 u373 u374 u375 : Value} :
    Code.wp Try.prog (dropSeq 19 (bodyOf Try.f3.body)) (bodyPost Try.prog Try.f3 (fun e w' => e = .returned (.bool true) ∧ Below w.heap.size w w')) ⟨#[.int .i64 cap0, .int .u64 en0, .slice (some ⟨bI, oI, none⟩) K cI, .slice (some ⟨bE, oE, none⟩) K cE, .slice (some ⟨bL, oL, none⟩) N cL, u5, u6, u7, u8, u9, u10, .int .i64 K, .int .i64 N, u13, .int .i64 most, u15, .pointer (some ⟨rb, 0, none⟩), .pointer (some ⟨pb, 0, none⟩), u18, .slice (some ⟨cb, 0, none⟩) K K, u20, u21, u22, u23, u24, u25, u26, u27, u28, u29, u30, u31, u32, u33, u34, u35, u36, u37, u38, u39, u40, u41, u42, u43, u44, u45, u46, u47, u48, u49, u50, u51, u52, u53, u54, u55, u56, u57, u58, u59, u60, u61, u62, u63, u64, u65, u66, u67, u68, u69, u70, u71, u72, u73, u74, u75, u76, u77, u78, u79, u80, u81, u82, u83, u84, u85, u86, u87, u88, u89, u90, u91, u92, u93, u94, u95, u96, u97, u98, u99, u100, u101, u102, u103, u104, u105, u106, u107, u108, u109, u110, u111, u112, u113, u114, u115, u116, u117, u118, u119, u120, u121, u122, u123, u124, u125, u126, u127, u128, u129, u130, u131, u132, u133, u134, u135, u136, u137, u138, u139, u140, u141, u142, u143, u144, u145, u146, u147, u148, u149, u150, u151, u152, u153, u154, u155, u156, u157, u158, u159, u160, u161, u162, u163, u164, u165, u166, u167, u168, u169, u170, u171, u172, u173, u174, u175, u176, u177, u178, u179, u180, u181, u182, u183, u184, u185, u186, u187, u188, u189, u190, u191, u192, u193, u194, u195, u196, u197, u198, u199, u200, u201, u202, u203, u204, u205, u206, u207, u208, u209, u210, u211, u212, u213, u214, u215, u216, u217, u218, u219, u220, u221, u222, u223, u224, u225, u226, u227, u228, u229, u230, u231, u232, u233, u234, u235, u236, u237, u238, u239, u240, u241, u242, u243, u244, u245, u246, u247, u248, u249, u250, u251, u252, u253, u254, u255, u256, u257, u258, u259, u260, u261, u262, u263, u264, u265, u266, u267, u268, u269, u270, u271, u272, u273, u274, u275, u276, u277, u278, u279, u280, u281, u282, u283, u284, u285, u286, u287, u288, u289, u290, u291, u292, u293, u294, u295, u296, u297, u298, u299, u300, u301, u302, u303, u304, u305, u306, u307, u308, u309, u310, u311, u312, u313, u314, u315, u316, u317, u318, u319, u320, u321, u322, u323, u324, u325, u326, u327, u328, u329, u330, u331, u332, u333, u334, u335, u336, u337, u338, u339, u340, u341, u342, u343, u344, u345, u346, u347, u348, u349, u350, u351, u352, u353, u354, u355, u356, u357, u358, u359, u360, u361, u362, u363, u364, u365, u366, u367, u368, u369, u370, u371, u372, u373, u374, u375], []⟩ wx := by
  have HC : Hid (Ctx en0 bI oI bE oE bL oL K N I E L w) := hC
  have HO : Hid (One w wx rb pb mb cb (mkD cap0 en0 I E (List.replicate K 0) K S0) (fun j => (S0.count (j : Int) : Int)) K) := hO
  have HS : Hid (S0.Perm L ∧ S0.Pairwise (· ≤ ·) ∧ top S0 = most) := ⟨hp, hs, ht⟩
  have hK1 := hC.hK1
  have hK2 := hC.hK2
  have iK1 : (1 : Int) ≤ K := by omega
  have iK2 : (K : Int) ≤ 65536 := by omega
  have HEc : Hid (∀ j, j < K → wx.cell? ⟨bE, oE + j, none⟩ = some (.int .i64 (E.getD j 0))) := fun j hj => in_cell hO.2.1 (hC.hE j hj)
  clear hC hO hp hs ht
  conv => arg 2; whnf
  go_upto_block 12 with fail
  go_cut [23, 24] from 218 to 230 (fun s23 _ wz => wx = wz ∧ ∃ fit : Nat, s23 = .int .i64 fit ∧ fit ≤ K ∧ ∀ j, j < K → (E.getD j 0 ≤ cap0 ↔ j < fit))
  case first =>
    go_wp2_with fail
    go_loopg [23, 24] K (fun g s23 s24 wz => wx = wz ∧ ∃ fit j : Nat, s23 = .int .i64 fit ∧ s24 = .int .i64 j ∧ j ≤ K ∧ K - j ≤ g ∧ fit ≤ j ∧ ∀ t, t < j → (E.getD t 0 ≤ cap0 ↔ t < fit))
    case atStart => exact ⟨rfl, 0, 0, rfl, rfl, Nat.zero_le _, by omega, Nat.le_refl _, fun t ht => by omega⟩
    case round =>
      obtain ⟨rfl, fit, j, rfl, rfl, hjK, hjg, hfj, hft⟩ := hrel
      have HF : Hid (∀ t, t < j → (E.getD t 0 ≤ cap0 ↔ t < fit)) := hft
      clear hft
      by_cases hjz : j = K
      · have hjz' : ¬ (j : Int) < K := by omega
        go_wp2_with fail
        go_meet
        subst hjz
        exact ⟨rfl, fit, rfl, hfj, HF.out⟩
      · have hjz' : (j : Int) < K := by omega
        have e0 := HEc.out j (by omega)
        generalize hy : E.getD j 0 = y at e0
        have HY : Hid (E.getD j 0 = y) := hy
        clear hy
        have ifj : (fit : Int) ≤ j := by omega
        by_cases hle : y ≤ cap0
        · go_wp2_with fail
          go_roundg (K - (j + 1))
          case measure => omega
          case rel =>
            have := fit_in E K j fit cap0 HC.out.hinc (by omega) hfj HF.out (by rw [HY.out]; exact hle)
            exact ⟨rfl, fit + 1, j + 1, by simp, by simp, by omega, Nat.le_refl _, this.1, this.2⟩
        · have hle' : ¬ y ≤ cap0 := hle
          have HLE : Hid (¬ y ≤ cap0) := hle
          go_wp2_with fail
          go_roundg (K - (j + 1))
          case measure => omega
          case rel =>
            have := fit_out E j fit cap0 hfj HF.out (by rw [HY.out]; have := HLE.out; omega)
            exact ⟨rfl, fit, j + 1, rfl, by simp, by omega, Nat.le_refl _, this.1, this.2⟩
  case rest =>
    obtain ⟨rfl, fit, rfl, hf1, hf2⟩ := hcut
    go_step
    exact rndTail cap0 en0 bI oI cI bE oE cE bL oL cL K N I E L w HC.out rb pb mb cb fit most S0 wx hf1 hf2 HO.out HS.out.1 HS.out.2.1 HS.out.2.2 hm
end Go.Proofs.Qxb6609224a.Rl
