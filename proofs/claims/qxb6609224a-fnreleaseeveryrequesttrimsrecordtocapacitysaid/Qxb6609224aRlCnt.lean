import Derived.Test.Qxb6609224aRlFit
namespace Go.Proofs.Qxb6609224a.Rl
open Go.RowKit

/-- The record while it is filled: j blocks are in. -/
def dB (cap en en0 : Int) (I E : List Int) (K j : Nat) : Dat := { cap := cap, tokens := en, ended := en0, keys := (List.range j).map (fun t => I.getD t 0), blocks := mk I E (List.replicate K 0) j, stops := [], leaf := false, spare := 0 }
/-- .. and its stops. -/
def dS (cap en en0 : Int) (I E : List Int) (K : Nat) (S : List Int) : Dat := { dB cap en en0 I E K K with stops := S }

theorem dS_file (cap en0 : Int) (I E : List Int) (K : Nat) (S : List Int) (hK : 1 ≤ K) : { dS cap (E.getD (K - 1) 0) en0 I E K S with leaf := free (dS cap (E.getD (K - 1) 0) en0 I E K S) } = mkD cap en0 I E (List.replicate K 0) K S := by
  obtain ⟨k, rfl⟩ : ∃ k, K = k + 1 := ⟨K - 1, by omega⟩
  unfold dS dB mkD free
  simp only [mk_length, mk_lastEnd, Dat.mk.injEq, true_and]
  refine ⟨rfl, rfl⟩

theorem fill_len (C : Nat → Nat) : ∀ (n j : Nat), j ≤ n → (fill C j).length ≤ (fill C n).length := by
  intro n
  induction n with
  | zero => intro j hj; rw [show j = 0 by omega]; exact Nat.le_refl _
  | succ n ih =>
    intro j hj
    by_cases e : j = n + 1
    · subst e; exact Nat.le_refl _
    · rw [fill_succ, List.length_append]
      have := ih j (by omega)
      omega

set_option maxRecDepth 100000 in
set_option maxHeartbeats 4000000 in
theorem cntTail (cap0 en0 : Int) (bI oI cI bE oE cE bL oL cL K N : Nat) (I E L : List Int) (w : World) (hC : Ctx en0 bI oI bE oE bL oL K N I E L w) (rb pb mb most : Nat) (wx : World)
    (hO : Owns w wx rb pb mb (dB cap0 (E.getD (K - 1) 0) en0 I E K K) (fun _ => False)) (hb : Below w.heap.size w wx) (hm : most < K) (hall : ∀ t, t < N → L.getD t 0 ≤ most) (hex : ∃ t, t < N ∧ L.getD t 0 = most) {u5 u6 u7 u8 u9 u10 u13 u15 u18 u19 u20 u21 u22 u23 u24 u25 u26 u27 u28 u29 u30 u31 u32 u33 u34 u35 u36 u37 u38 u39 u40 u41 u42 u43 u44 u45 u46 u47 u48 u49 u50 u51 u52 u53 u54 u55 u56 u57 u58 u59 u60 u61 u62 u63 u64 u65 u66 u67 u68 u69 u70 u71 u72 u73 u74 u75 u76 u77 u78 u79 u80 u81 u82 u83 u84 u85 u86 u87 u88 u89 u90 u91 u92 u93 u94 u95 u96 u97 u98 u99 u100 u101 u102 u103 u104 u105 u106 u107 u108 u109 u110 u111 u112 u113 u114 u115 u116 u117 u118 u119 u120 u121 u122 u123 u124 u125 u126 u127 u128 u129 u130 u131 u132 u133 u134 u135 u136 u137 u138 u139 u140 u141 u142 u143 u144 u145 u146 u147 u148 u149 u150 u151 u152 u153 u154 u155 u156 u157 u158 u159 u160 u161 u162 u163 u164 u165 u166 u167 u168 u169 u170 u171 u172 u173 u174 u175 u176 u177 u178 u179 u180 u181 u182 u183 u184 u185 u186 u187 u188 u189 u190 u191 u192 u193 u194 u195 u196 u197 u198 u199 u200 u201 u202 u203 u204 u205 u206 u207 u208 u209 u210 u211 u212 u213 u214 u215 u216 u217 u218 u219 u220 u221 u222 u223 u224 u225 u226 u227 u228 u229 u230 u231 u232 u233 u234 u235 u236 u237 u238 u239 u240 u241 u242 u243 u244 u245 u246 u247 u248 u249 u250 u251 u252 u253 u254 u255 u256 u257 u258 u259 u260 u261 u262 u263 u264 u265 u266 u267 u268 u269 u270 u271 u272 u273 u274 u275 u276 u277 u278 u279 u280 u281 u282 u283 u284 u285 u286 u287 u288 u289 u290 u291 u292 u293 u294 u295 u296 u297 u298 u299 u300 u301 u302 u303 u304 u305 u306 u307 u308 u309 u310 u311 u312 u313 u314 u315 u316 u317 u318 u319 u320 u321 u322 u323 u324 u325 u326 u327 u328 u329 u330 u331 u332 u333 u334 u335 u336 u337 u338 u339 u340 u341 u342 u343 u344 u345 u346 u347 u348 u349 u350 u351 u352 u353 u354 u355 u356 u357 u358 u359 u360 u361 u362 u363 u364 u365 u366 u367 u368 u369 u370 u371 u372 u373 u374 u375 : Value} :
    Code.wp Try.prog (dropSeq 15 (bodyOf Try.f3.body)) (bodyPost Try.prog Try.f3 (fun e w' => e = .returned (.bool true) ∧ Below w.heap.size w w')) ⟨#[.int .i64 cap0, .int .u64 en0, .slice (some ⟨bI, oI, none⟩) K cI, .slice (some ⟨bE, oE, none⟩) K cE, .slice (some ⟨bL, oL, none⟩) N cL, u5, u6, u7, u8, u9, u10, .int .i64 K, .int .i64 N, u13, .int .i64 most, u15, .pointer (some ⟨rb, 0, none⟩), .pointer (some ⟨pb, 0, none⟩), u18, u19, u20, u21, u22, u23, u24, u25, u26, u27, u28, u29, u30, u31, u32, u33, u34, u35, u36, u37, u38, u39, u40, u41, u42, u43, u44, u45, u46, u47, u48, u49, u50, u51, u52, u53, u54, u55, u56, u57, u58, u59, u60, u61, u62, u63, u64, u65, u66, u67, u68, u69, u70, u71, u72, u73, u74, u75, u76, u77, u78, u79, u80, u81, u82, u83, u84, u85, u86, u87, u88, u89, u90, u91, u92, u93, u94, u95, u96, u97, u98, u99, u100, u101, u102, u103, u104, u105, u106, u107, u108, u109, u110, u111, u112, u113, u114, u115, u116, u117, u118, u119, u120, u121, u122, u123, u124, u125, u126, u127, u128, u129, u130, u131, u132, u133, u134, u135, u136, u137, u138, u139, u140, u141, u142, u143, u144, u145, u146, u147, u148, u149, u150, u151, u152, u153, u154, u155, u156, u157, u158, u159, u160, u161, u162, u163, u164, u165, u166, u167, u168, u169, u170, u171, u172, u173, u174, u175, u176, u177, u178, u179, u180, u181, u182, u183, u184, u185, u186, u187, u188, u189, u190, u191, u192, u193, u194, u195, u196, u197, u198, u199, u200, u201, u202, u203, u204, u205, u206, u207, u208, u209, u210, u211, u212, u213, u214, u215, u216, u217, u218, u219, u220, u221, u222, u223, u224, u225, u226, u227, u228, u229, u230, u231, u232, u233, u234, u235, u236, u237, u238, u239, u240, u241, u242, u243, u244, u245, u246, u247, u248, u249, u250, u251, u252, u253, u254, u255, u256, u257, u258, u259, u260, u261, u262, u263, u264, u265, u266, u267, u268, u269, u270, u271, u272, u273, u274, u275, u276, u277, u278, u279, u280, u281, u282, u283, u284, u285, u286, u287, u288, u289, u290, u291, u292, u293, u294, u295, u296, u297, u298, u299, u300, u301, u302, u303, u304, u305, u306, u307, u308, u309, u310, u311, u312, u313, u314, u315, u316, u317, u318, u319, u320, u321, u322, u323, u324, u325, u326, u327, u328, u329, u330, u331, u332, u333, u334, u335, u336, u337, u338, u339, u340, u341, u342, u343, u344, u345, u346, u347, u348, u349, u350, u351, u352, u353, u354, u355, u356, u357, u358, u359, u360, u361, u362, u363, u364, u365, u366, u367, u368, u369, u370, u371, u372, u373, u374, u375], []⟩ wx := by
  have HC : Hid (Ctx en0 bI oI bE oE bL oL K N I E L w) := hC
  have hK1 := hC.hK1
  have hK2 := hC.hK2
  have hN1 := hC.hN1
  have hN2 := hC.hN2
  have hLl := hC.hLl
  have iK1 : (1 : Int) ≤ K := by omega
  have iK2 : (K : Int) ≤ 65536 := by omega
  have iN1 : (1 : Int) ≤ N := by omega
  have iN2 : (N : Int) ≤ 4096 := by omega
  have HO1 : Hid (One w (wx.alloc (.cells (madeCells #[.int .i64 0] K) 3)) rb pb mb wx.heap.size (dS cap0 (E.getD (K - 1) 0) en0 I E K []) (fun _ => 0) K) := One.start K hO hb
  have HPL : Hid ((fill (fun j => L.count (j : Int)) K).Perm L) := fill_perm L K _ (fun _ _ => rfl) (fun x hx => by
    obtain ⟨s, hs, rfl⟩ := mem_getD L x hx
    exact hC.hLr s (by omega))
  have HTP : Hid (top (fill (fun j => L.count (j : Int)) K) = most) := by
    refine top_is _ (fill_sorted _ _) (fun x hx => (fill_mem _ _ x hx).1) most (by omega) (fun _ => ?_) (fun x hx => ?_)
    · obtain ⟨t, ht, e⟩ := hex
      exact HPL.out.mem_iff.2 (e ▸ getD_mem L t (by omega))
    · obtain ⟨s, hs, rfl⟩ := mem_getD L x (HPL.out.mem_iff.1 hx)
      exact hall s (by omega)
  have hmk := run_make_row' (P := Try.prog) 24 3 (.int .i64 0) 8 Try.underlying24 info3 rfl .i64 .i64 K (by omega) (by omega) wx
  generalize hen : E.getD (K - 1) 0 = en at *
  have HEN : Hid (E.getD (K - 1) 0 = en) := hen
  clear hen hC hO hb hall hex
  conv => arg 2; whnf
  go_upto_block 6 with fail
  clear hmk
  generalize wx.alloc (.cells (madeCells #[.int .i64 0] K) 3) = w0 at *
  generalize wx.heap.size = cb at *
  go_cut [20] from 185 to 198 (fun _ wz => One w wz rb pb mb cb (dS cap0 en en0 I E K []) (fun j => (L.count (j : Int) : Int)) K)
  case first =>
    go_wp2_with fail
    go_loopg [20] N (fun g s20 wz => ∃ t : Nat, s20 = .int .i64 t ∧ t ≤ N ∧ N - t ≤ g ∧ One w wz rb pb mb cb (dS cap0 en en0 I E K []) (fun j => ((L.take t).count (j : Int) : Int)) K)
    case atStart => exact ⟨0, rfl, Nat.zero_le _, by omega, HO1.out.congr (fun j _ => by simp)⟩
    case round =>
      obtain ⟨t, rfl, htN, htg, ho⟩ := hrel
      clear HO1
      have HO : Hid (One w wr rb pb mb cb (dS cap0 en en0 I E K []) (fun j => ((L.take t).count (j : Int) : Int)) K) := ho
      clear ho
      by_cases htz : t = N
      · have htz' : ¬ (t : Int) < N := by omega
        go_wp2_with fail
        go_meet
        exact HO.out.congr (fun j _ => by rw [htz, List.take_of_length_le (by omega)])
      · have htz' : (t : Int) < N := by omega
        obtain ⟨i, hi⟩ : ∃ i : Nat, L.getD t 0 = i := ⟨(L.getD t 0).toNat, by have := HC.out.hLr t (by omega); omega⟩
        have hiK : i < K := by have := HC.out.hLr t (by omega); omega
        have iiK : (i : Int) < K := by omega
        have HLI : Hid (L.getD t 0 = i) := hi
        have l0 := in_cell HO.out.2.1 (HC.out.hL t (by omega))
        rw [hi] at l0
        have c0 : wr.cell? ⟨cb, i, none⟩ = some (.int .i64 (((L.take t).count (i : Int) : Nat) : Int)) := HO.out.2.2.1.cell hiK
        have f0 := HO.out.2.2.1.frozen i
        have hx : (((L.take t).count (i : Int) : Nat) : Int) ≤ 4096 := by
          have h1 : (L.take t).count (i : Int) ≤ (L.take t).length := List.count_le_length
          rw [List.length_take] at h1
          omega
        have hx0 : (0 : Int) ≤ (((L.take t).count (i : Int) : Nat) : Int) := by omega
        have HO2 : Hid (One w (wr.setCell ⟨cb, i, none⟩ (.int .i64 ((((L.take t).count (i : Int) : Nat) : Int) + 1))) rb pb mb cb (dS cap0 en en0 I E K []) (fun j => ((L.take (t + 1)).count (j : Int) : Int)) K) := by
          refine (HO.out.set i _).congr (fun j _ => ?_)
          have hc := take_count L t (by omega) (j : Int)
          rw [hi] at hc
          by_cases e : j = i
          · subst e
            rw [if_pos rfl] at hc
            simp only [if_true]
            omega
          · rw [if_neg (by omega)] at hc
            simp only [e, if_false]
            omega
        clear hi
        generalize (((L.take t).count (i : Int) : Nat) : Int) = x at *
        go_wp2_with fail
        go_roundg (N - (t + 1))
        case measure => omega
        case rel => exact ⟨t + 1, by simp, by omega, Nat.le_refl _, HO2.out⟩
  case rest =>
    have HO : Hid (One w wc rb pb mb cb (dS cap0 en en0 I E K (fill (fun j => L.count (j : Int)) 0)) (fun j => (L.count (j : Int) : Int)) K) := hcut
    clear hcut HO1
    go_upto_block 8 with fail
    go_cut [21, 22] from 199 to 214 (fun _ _ wz => One w wz rb pb mb cb (dS cap0 en en0 I E K (fill (fun j => L.count (j : Int)) K)) (fun j => (L.count (j : Int) : Int)) K)
    case first =>
      go_wp2_with fail
      go_loopg [21] K (fun g s21 wz => ∃ j : Nat, s21 = .int .i64 j ∧ j ≤ K ∧ K - j ≤ g ∧ One w wz rb pb mb cb (dS cap0 en en0 I E K (fill (fun j => L.count (j : Int)) j)) (fun j => (L.count (j : Int) : Int)) K)
      case atStart => exact ⟨0, rfl, Nat.zero_le _, by omega, HO.out⟩
      case round =>
        obtain ⟨j, rfl, hjK, hjg, ho⟩ := hrel
        clear HO
        have HO : Hid (One w wr rb pb mb cb (dS cap0 en en0 I E K (fill (fun j => L.count (j : Int)) j)) (fun j => (L.count (j : Int) : Int)) K) := ho
        clear ho
        by_cases hjz : j = K
        · have hjz' : ¬ (j : Int) < K := by omega
          go_wp2_with fail
          go_meet
          subst hjz
          exact HO.out
        · have hjz' : (j : Int) < K := by omega
          have hCN : L.count (j : Int) ≤ N := by rw [← hLl]; exact List.count_le_length
          have HLEN : Hid ((fill (fun j => L.count (j : Int)) j).length + L.count (j : Int) ≤ N) := by
            have h1 := fill_len (fun j => L.count (j : Int)) K (j + 1) (by omega)
            rw [HPL.out.length_eq, fill_succ, List.length_append, List.length_replicate, hLl] at h1
            exact h1
          have HCJ : Hid (∃ c : Nat, c = L.count (j : Int)) := ⟨_, rfl⟩
          obtain ⟨c, hc⟩ := HCJ.out
          have HCE : Hid (c = L.count (j : Int)) := hc
          have icN : (c : Int) ≤ N := by omega
          clear hc HCJ hCN
          go_wp2_with fail
          go_loopg [22] c (fun g s22 wz => ∃ q : Nat, s22 = .int .i64 q ∧ q ≤ c ∧ c - q ≤ g ∧ One w wz rb pb mb cb (dS cap0 en en0 I E K (fill (fun j => L.count (j : Int)) j ++ List.replicate q (j : Int))) (fun j => (L.count (j : Int) : Int)) K)
          case atStart => exact ⟨0, rfl, Nat.zero_le _, by omega, by simpa using HO.out⟩
          case round =>
            obtain ⟨q, rfl, hqc, hqg, ho⟩ := hrel
            clear HO
            have HO : Hid (One w wr rb pb mb cb (dS cap0 en en0 I E K (fill (fun j => L.count (j : Int)) j ++ List.replicate q (j : Int))) (fun j => (L.count (j : Int) : Int)) K) := ho
            clear ho
            have c1 : wr.cell? ⟨cb, j, none⟩ = some (.int .i64 (c : Int)) := by
              rw [HCE.out]; exact HO.out.2.2.1.cell (by omega)
            by_cases hqz : q = c
            · have hqz' : ¬ (q : Int) < c := by omega
              have HO3 : Hid (One w wr rb pb mb cb (dS cap0 en en0 I E K (fill (fun j => L.count (j : Int)) (j + 1))) (fun j => (L.count (j : Int) : Int)) K) := by
                have := HO.out
                rw [hqz, HCE.out] at this
                show One _ _ _ _ _ _ _ _ _
                rw [fill_succ]
                exact this
              clear HO
              go_wp2_with fail
              go_roundg (K - (j + 1))
              case measure => omega
              case rel => exact ⟨j + 1, by simp, by omega, Nat.le_refl _, HO3.out⟩
            · have hqz' : (q : Int) < c := by omega
              obtain ⟨F, hst, hnext⟩ := HO.out.open
              have H15 : Hid (Calls Try.prog 15 #[.pointer (some ⟨pb, 0, none⟩), .int .i64 j] wr fun e w' => e = .returned (.tuple #[]) ∧ One w w' rb pb mb cb (dS cap0 en en0 I E K (fill (fun j => L.count (j : Int)) j ++ List.replicate (q + 1) (j : Int))) (fun j => (L.count (j : Int) : Int)) K) := by
                refine (appendStop w.heap.size wr rb pb mb _ F (j : Int) hst ?_).mono ?_
                · show (fill (fun j => L.count (j : Int)) j ++ List.replicate q (j : Int)).length ≤ _
                  rw [List.length_append, List.length_replicate]
                  have h1 := HLEN.out
                  have h2 := HCE.out
                  omega
                · rintro e w' ⟨rfl, hs, hf⟩
                  refine ⟨rfl, ?_⟩
                  have := hnext w' _ hs hf
                  rw [List.replicate_succ', ← List.append_assoc]
                  exact this
              clear hst hnext
              go_wp2_with (go_at_call 15; refine H15.out.mono ?_; rintro e w4 ⟨rfl, h4⟩; have HO4 : Hid (One w w4 rb pb mb cb (dS cap0 en en0 I E K (fill (fun j => L.count (j : Int)) j ++ List.replicate (q + 1) (j : Int))) (fun j => (L.count (j : Int) : Int)) K) := h4; clear h4)
              go_roundg (c - (q + 1))
              case measure => omega
              case rel => exact ⟨q + 1, by simp, by omega, Nat.le_refl _, HO4.out⟩
    case rest =>
      clear HO
      have HO : Hid (One w wc rb pb mb cb (dS cap0 en en0 I E K (fill (fun j => L.count (j : Int)) K)) (fun j => (L.count (j : Int) : Int)) K) := hcut
      clear hcut
      have H16 : Hid (Calls Try.prog 16 #[.pointer (some ⟨rb, 0, none⟩), .pointer (some ⟨pb, 0, none⟩)] wc fun e w' => e = .returned (.tuple #[]) ∧ One w w' rb pb mb cb (mkD cap0 en0 I E (List.replicate K 0) K (fill (fun j => L.count (j : Int)) K)) (fun j => ((fill (fun j => L.count (j : Int)) K).count (j : Int) : Int)) K) := by
        obtain ⟨F, hst, hnext⟩ := HO.out.open
        have hbl : (dS cap0 en en0 I E K (fill (fun j => L.count (j : Int)) K)).blocks.length = K := mk_length _ _ _ _
        have hsl : (dS cap0 en en0 I E K (fill (fun j => L.count (j : Int)) K)).stops.length = N := by
          show (fill (fun j => L.count (j : Int)) K).length = N
          rw [HPL.out.length_eq, hLl]
        have := zzFile hst (by rw [hbl]; omega) (by rw [hbl]; omega) (by rw [hsl]; omega) (fun h => Bool.noConfusion h)
        refine this.mono ?_
        rintro e w' ⟨rfl, hs, hf⟩
        refine ⟨rfl, ?_⟩
        have h1 := hnext w' _ hs hf
        rw [← HEN.out, dS_file cap0 en0 I E K _ hK1] at h1
        exact h1.congr (fun j hj => by rw [fill_count, if_pos hj])
      clear HO
      go_upto_region 47 with fail
      go_cut [] from 215 to 217 (fun wz => One w wz rb pb mb cb (mkD cap0 en0 I E (List.replicate K 0) K (fill (fun j => L.count (j : Int)) K)) (fun j => ((fill (fun j => L.count (j : Int)) K).count (j : Int) : Int)) K)
      case first =>
        go_wp2_with (go_at_call 16; refine H16.out.mono ?_; rintro e w4 ⟨rfl, h4⟩; have HO4 : Hid (One w w4 rb pb mb cb (mkD cap0 en0 I E (List.replicate K 0) K (fill (fun j => L.count (j : Int)) K)) (fun j => ((fill (fun j => L.count (j : Int)) K).count (j : Int) : Int)) K) := h4; clear h4)
        go_meet
        exact HO4.out
      case rest =>
        have h5 := hcut
        clear hcut
        go_step
        exact fitTail cap0 en0 bI oI cI bE oE cE bL oL cL K N I E L w HC.out rb pb mb cb most _ wc h5 HPL.out (fill_sorted _ _) HTP.out hm
end Go.Proofs.Qxb6609224a.Rl
