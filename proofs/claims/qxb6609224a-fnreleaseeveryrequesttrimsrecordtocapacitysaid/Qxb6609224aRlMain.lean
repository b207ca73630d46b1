import Derived.Test.Qxb6609224aRlCnt
import Derived.Test.Qxb6609224aRlDistinct
import Derived.Deep.CutBlock
import Derived.Deep.LoopGhost
import Derived.BigQuiet
namespace Go.Proofs.Qxb6609224a.Rl
open Go.RowKit

theorem start_owns {w w1 w2 w3 : World} {cap en en0 : Int} {I E : List Int} {K : Nat} (h1 : Below w.heap.size w w1) (h2 : Below w1.heap.size w1 w2) (s2 : w2.heap.size = w1.heap.size + 2) (r2 : w2.heap[w1.heap.size + 1]? = some (.cells #[.int .i64 cap, .int .i64 en, .map (some w1.heap.size), .slice none 0 0, .int .u64 en0, .slice none 0 0] 81 (0, 0))) (m2 : w2.heap[w1.heap.size]? = some (.map #[] 0))
    (h3 : Below w2.heap.size w2 w3) (s3 : w3.heap.size = w2.heap.size + 1) (p3 : w3.heap[w2.heap.size]? = some (.cells #[.pointer none, .int .i64 0, .slice none 0 0, .slice none 0 0, .int .i64 (-1)] 84 (0, 0))) :
    Owns w w3 (w1.heap.size + 1) w2.heap.size w1.heap.size (dB cap en en0 I E K 0) (fun _ => False) ∧ Below w.heap.size w w3 := by
  have z1 := h1.size
  refine ⟨⟨fun b => b = w1.heap.size + 1 ∨ b = w2.heap.size ∨ b = w1.heap.size, ⟨.slice none 0 0, .slice none 0 0, .slice none 0 0, .slice none 0 0, ⟨?_, p3, ⟨#[], 0, ?_, rfl, by simp⟩, ⟨rfl, Or.inl ⟨rfl, rfl⟩⟩, ⟨rfl, Or.inl ⟨rfl, rfl⟩⟩, ⟨rfl, Or.inl ⟨rfl, rfl⟩⟩, ⟨rfl, Or.inl ⟨rfl, rfl⟩⟩, by simp [Value.ownBlock], by omega, by omega, by omega⟩, ?_⟩, ?_⟩, ?_⟩
  · exact (h3.block _ (by omega)).trans r2
  · exact (h3.block _ (by omega)).trans m2
  · intro b hb
    rcases hb with h | h | h | h | h | h | h
    · exact Or.inl h
    · exact Or.inr (Or.inl h)
    · exact Or.inr (Or.inr h)
    all_goals simp [Value.ownBlock] at h
  · intro b hb
    refine ⟨by omega, by omega, fun h => h⟩
  · exact ⟨h3.os.trans (h2.os.trans h1.os), h3.tape.trans (h2.tape.trans h1.tape), h3.output.trans (h2.output.trans h1.output), by omega, fun b hb => (h3.block b (by omega)).trans ((h2.block b (by omega)).trans (h1.block b hb))⟩

theorem dB_succ (cap en en0 : Int) (I E : List Int) (K j : Nat) (hj : j < K) : ({ dB cap en en0 I E K j with blocks := (dB cap en en0 I E K j).blocks ++ [(I.getD j 0, E.getD j 0, 0)], keys := (dB cap en en0 I E K j).keys ++ [I.getD j 0] } : Dat) = dB cap en en0 I E K (j + 1) := by
  unfold dB
  have h0 : (List.replicate K (0 : Int)).getD j 0 = 0 := by rw [List.getD_eq_getElem?_getD]; simp [hj]
  rw [mk_succ, h0, List.range_succ, List.map_append]
  rfl

/-- A block is appended: what is placed next. -/
theorem place_step {w wr wc : World} {rb pb mb : Nat} {cap en en0 : Int} {I E : List Int} {K j : Nat} {F : Nat → Prop} (hF : ∀ b, F b → w.heap.size ≤ b ∧ b < wr.heap.size ∧ ¬ False) (hb : Below w.heap.size w wr) (hj : j < K) (hIl : I.length = K) (hnd : I.Nodup)
    (hs : St w.heap.size wc rb pb mb { dB cap en en0 I E K j with blocks := (dB cap en en0 I E K j).blocks ++ [(I.getD j 0, E.getD j 0, 0)] } (grow F wr wc)) (hf : Fr wr wc F) :
    Below w.heap.size w wc ∧ Calls Try.prog 14 #[.pointer (some ⟨rb, 0, none⟩), .int .i64 (I.getD j 0), .pointer (some ⟨pb, 0, none⟩), .int .i64 j] wc fun e w' => e = .returned (.tuple #[]) ∧ Owns w w' rb pb mb (dB cap en en0 I E K (j + 1)) (fun _ => False) ∧ Below w.heap.size w w' := by
  obtain ⟨ho, hb', _, _⟩ := Owns.next (ex := fun _ => False) hF hb.size (fun _ h => h.elim) hs hf hb
  refine ⟨hb', ?_⟩
  obtain ⟨F', hst, hnext⟩ := ho.open hb' (fun _ h => h.elim)
  refine (placeBlock w.heap.size wc rb pb mb _ F' (I.getD j 0) j (some ⟨pb, 0, none⟩) hst ?_).mono ?_
  · intro hm
    have := (keys_mem I j j (by omega) (by omega) hnd).1 hm
    omega
  · rintro e w' ⟨rfl, hs', hf'⟩
    obtain ⟨k1, k2, _⟩ := hnext w' _ hs' hf'
    rw [← dB_succ cap en en0 I E K j hj]
    exact ⟨rfl, k1, k2⟩

set_option maxRecDepth 100000 in
set_option maxHeartbeats 4000000 in
theorem main_good (cap0 en0 : Int) (bI oI cI bE oE cE bL oL cL K N : Nat) (I E L : List Int) (w : World) (hIl : I.length = K) (hEl : E.length = K) (hLl : L.length = N) (hK1 : 1 ≤ K) (hK2 : K ≤ 65536) (hN1 : 1 ≤ N) (hN2 : N ≤ 4096) (h8 : 8 * K + 8 * K + 8 * N ≤ 1048576)
    (hI : ∀ j, j < K → w.cell? ⟨bI, oI + j, none⟩ = some (.int .i64 (I.getD j 0))) (hE : ∀ j, j < K → w.cell? ⟨bE, oE + j, none⟩ = some (.int .i64 (E.getD j 0))) (hL : ∀ j, j < N → w.cell? ⟨bL, oL + j, none⟩ = some (.int .i64 (L.getD j 0)))
    (hEr : ∀ j, j < K → E.getD j 0 ≤ 9223372036854775807)
    (H9 : Hid (∀ v u, Calls Try.prog 9 #[v, u, .slice (some ⟨bI, oI, none⟩) K cI, .slice (some ⟨bE, oE, none⟩) K cE, .slice (some ⟨bL, oL, none⟩) N cL] w fun e w' => e = .returned (.bool true) ∧ w = w')) :
    Calls Try.prog 3 #[.int .i64 cap0, .int .u64 en0, .slice (some ⟨bI, oI, none⟩) K cI, .slice (some ⟨bE, oE, none⟩) K cE, .slice (some ⟨bL, oL, none⟩) N cL] w fun e w' => e = .returned (.bool true) ∧ Below w.heap.size w w' := by
  have iK1 : (1 : Int) ≤ K := by omega
  have iK0 : ¬ (K : Int) = 0 := by omega
  have iK2 : (K : Int) ≤ 65536 := by omega
  have iN1 : (1 : Int) ≤ N := by omega
  have iN0 : ¬ (N : Int) = 0 := by omega
  have iN2 : (N : Int) ≤ 4096 := by omega
  have i8 : 8 * (K : Int) + 8 * (K : Int) + 8 * (N : Int) ≤ 1048576 := by omega
  have HI : Hid (∀ j, j < K → w.cell? ⟨bI, oI + j, none⟩ = some (.int .i64 (I.getD j 0))) := hI
  have HEc : Hid (∀ j, j < K → w.cell? ⟨bE, oE + j, none⟩ = some (.int .i64 (E.getD j 0))) := hE
  have HL : Hid (∀ j, j < N → w.cell? ⟨bL, oL + j, none⟩ = some (.int .i64 (L.getD j 0))) := hL
  have HER : Hid (∀ j, j < K → E.getD j 0 ≤ 9223372036854775807) := hEr
  have e0 := hE 0 (by omega)
  rw [Nat.add_zero] at e0
  clear hI hE hL hEr h8
  by_cases he0 : E.getD 0 0 ≤ 0
  · generalize E.getD 0 0 = x at *
    go_enter Try.func3, Try.ntmps3
    go_wp2_with (go_at_call 9; refine (H9.out _ _).mono ?_; rintro e w' ⟨rfl, rfl⟩)
    go_ret
    exact ⟨rfl, Below.refl _ _⟩
  · have HE0 : Hid (0 < E.getD 0 0) := by show _ < _; omega
    generalize hg0 : E.getD 0 0 = x at *
    have HG0 : Hid (E.getD 0 0 = x) := hg0
    have hx : ¬ x ≤ 0 := he0
    clear hg0
    go_enter Try.func3, Try.ntmps3
    have bK : ((K : Int) == 0) = false := by simpa using iK0
    have bN : ((N : Int) == 0) = false := by simpa using iN0
    go_upto_block 0 with (go_at_call 9; refine (H9.out _ _).mono ?_; rintro e w' ⟨rfl, rfl⟩)
    clear H9 e0 bK bN
    go_cut [13] from 92 to 106 (fun s13 wx => (∃ q, wx = w.drewN q) ∧ ∀ j, 1 ≤ j → j < K → E.getD (j - 1) 0 < E.getD j 0)
    case first =>
      go_wp2_with fail
      go_loopg [13] K (fun g s13 wx => ∃ j q : Nat, s13 = .int .i64 j ∧ 1 ≤ j ∧ j ≤ K ∧ K - j ≤ g ∧ wx = w.drewN q ∧ ∀ t, 1 ≤ t → t < j → E.getD (t - 1) 0 < E.getD t 0)
      case atStart => exact ⟨1, 0, rfl, Nat.le_refl _, hK1, by omega, rfl, fun t h1 h2 => by omega⟩
      case round =>
        obtain ⟨j, q, rfl, hj1, hjK, hjg, rfl, hinc⟩ := hrel
        have HINC : Hid (∀ t, 1 ≤ t → t < j → E.getD (t - 1) 0 < E.getD t 0) := hinc
        clear hinc
        by_cases hjz : j = K
        · have hjz' : ¬ (j : Int) < K := by omega
          go_wp2_with fail
          go_meet
          exact ⟨⟨_, rfl⟩, fun t h1 h2 => HINC.out t h1 (by omega)⟩
        · have hjz' : (j : Int) < K := by omega
          have c0 := HEc.out j (by omega)
          have c1 := HEc.out (j - 1) (by omega)
          have hj1' : (1 : Int) ≤ j := by omega
          have ej : ((j - 1 : Nat) : Int) = (j : Int) - 1 := by omega
          have ej2 : ((j : Int) - 1).toNat = j - 1 := by omega
          by_cases hle : E.getD j 0 ≤ E.getD (j - 1) 0
          · generalize E.getD j 0 = y at *
            generalize E.getD (j - 1) 0 = z at *
            go_wp2_with fail
            go_quiet (fail)
            go_wp2_with fail
            go_ret
            exact ⟨rfl, below_same rfl rfl rfl rfl⟩
          · have HN2 : Hid (E.getD (j - 1) 0 < E.getD j 0) := by show _ < _; omega
            have hlt : E.getD (j - 1) 0 < E.getD j 0 := HN2.out
            generalize E.getD j 0 = y at c0 hlt
            generalize E.getD (j - 1) 0 = z at c1 hlt
            clear hle
            go_wp2_with fail
            go_quiet (fail)
            go_wp2_with fail
            go_roundg (K - (j + 1))
            case measure => omega
            case rel =>
              refine ⟨j + 1, _, by simp, by omega, by omega, Nat.le_refl _, rfl, fun t h1 h2 => ?_⟩
              by_cases e : t = j
              · subst e; exact HN2.out
              · exact HINC.out t h1 (by omega)
    case rest =>
      obtain ⟨⟨q1, rfl⟩, hinc⟩ := hcut
      have HINC : Hid (∀ j, 1 ≤ j → j < K → E.getD (j - 1) 0 < E.getD j 0) := hinc
      clear hinc
      go_upto_block 2 with fail
      go_cut [14, 15] from 107 to 134 (fun s14 s15 wx => wx = w.drewN q1 ∧ ∃ m : Nat, s14 = .int .i64 m ∧ m < K ∧ (∀ t, t < N → 0 ≤ L.getD t 0 ∧ L.getD t 0 ≤ m) ∧ ∃ t, t < N ∧ L.getD t 0 = m)
      case first =>
        go_wp2_with fail
        go_loopg [14, 15] N (fun g s14 s15 wx => wx = w.drewN q1 ∧ ∃ (t : Nat) (m : Int), s14 = .int .i64 m ∧ s15 = .int .i64 t ∧ t ≤ N ∧ N - t ≤ g ∧ -1 ≤ m ∧ m < K ∧ (∀ s, s < t → 0 ≤ L.getD s 0 ∧ L.getD s 0 ≤ m) ∧ (0 < t → ∃ s, s < t ∧ L.getD s 0 = m) ∧ (t = 0 → m = -1))
        case atStart => exact ⟨rfl, 0, -1, rfl, rfl, Nat.zero_le _, by omega, by omega, by omega, fun s hs => by omega, fun h => by omega, fun _ => rfl⟩
        case round =>
          obtain ⟨rfl, t, m, rfl, rfl, htN, htg, hm1, hmK, hall, hex, hz0⟩ := hrel
          have HZ0 : Hid (t = 0 → m = -1) := hz0
          have HA : Hid (∀ s, s < t → 0 ≤ L.getD s 0 ∧ L.getD s 0 ≤ m) := hall
          have HX : Hid (0 < t → ∃ s, s < t ∧ L.getD s 0 = m) := hex
          clear hall hex hz0
          by_cases htz : t = N
          · have htz' : ¬ (t : Int) < N := by omega
            go_wp2_with fail
            go_meet
            obtain ⟨s, hs, he⟩ := HX.out (by omega)
            have h1 := HA.out s hs
            refine ⟨rfl, m.toNat, by rw [Int.toNat_of_nonneg (by omega)], by omega, fun s' hs' => ?_, s, by omega, by omega⟩
            have := HA.out s' (by omega)
            omega
          · have htz' : (t : Int) < N := by omega
            have c0 := HL.out t (by omega)
            generalize hy : L.getD t 0 = y at *
            have HY : Hid (L.getD t 0 = y) := hy
            clear hy
            by_cases hneg : y < 0
            · go_wp2_with fail
              go_ret
              exact ⟨rfl, below_drewN _ _⟩
            · have hneg' : ¬ y < 0 := hneg
              by_cases hbig : (K : Int) ≤ y
              · go_wp2_with fail
                go_ret
                exact ⟨rfl, below_drewN _ _⟩
              · have hbig' : ¬ (K : Int) ≤ y := hbig
                by_cases hgt : m < y
                · go_wp2_with fail
                  go_roundg (N - (t + 1))
                  case measure => omega
                  case rel =>
                    refine ⟨rfl, t + 1, y, rfl, by simp, by omega, Nat.le_refl _, by omega, by omega, fun s hs => ?_, fun _ => ⟨t, by omega, HY.out⟩, fun h => by omega⟩
                    by_cases e : s = t
                    · subst e; rw [HY.out]; omega
                    · have := HA.out s (by omega); omega
                · have hgt' : ¬ m < y := hgt
                  go_wp2_with fail
                  go_roundg (N - (t + 1))
                  case measure => omega
                  case rel =>
                    refine ⟨rfl, t + 1, m, rfl, by simp, by omega, Nat.le_refl _, by omega, by omega, fun s hs => ?_, fun _ => ?_, fun h => by omega⟩
                    · by_cases e : s = t
                      · subst e; rw [HY.out]; omega
                      · exact HA.out s (by omega)
                    · rcases Nat.eq_zero_or_pos t with h | h
                      · have := HZ0.out h; exact ⟨t, by omega, by rw [HY.out]; omega⟩
                      · obtain ⟨s, hs, he⟩ := HX.out h
                        exact ⟨s, by omega, he⟩
      case rest =>
        obtain ⟨rfl, most, rfl, hmK, hLr, hmx⟩ := hcut
        have HLR : Hid (∀ t, t < N → 0 ≤ L.getD t 0 ∧ L.getD t 0 ≤ most) := hLr
        have HMX : Hid (∃ t, t < N ∧ L.getD t 0 = most) := hmx
        clear hLr hmx
        have cl := HEc.out (K - 1) (by omega)
        have eK : ((K - 1 : Nat) : Int) = (K : Int) - 1 := by omega
        have eK2 : ((K : Int) - 1).toNat = K - 1 := by omega
        generalize hend : E.getD (K - 1) 0 = en at cl
        have HEND : Hid (E.getD (K - 1) 0 = en) := hend
        clear hend
        go_upto_region 24 with fail
        go_cut [147] from 135 to 147 (fun s147 wx => wx = w.drewN q1 ∧ ∃ b : Bool, s147 = .bool b)
        case first =>
          by_cases h1 : cap0 < en
          · by_cases h2 : (most : Int) = (K : Int) - 1
            · go_wp2_with fail
              go_meet
              exact ⟨rfl, _, rfl⟩
            · have h2' : ¬ (most : Int) = (K : Int) - 1 := h2
              go_wp2_with fail
              go_meet
              exact ⟨rfl, _, rfl⟩
          · have h1' : ¬ cap0 < en := h1
            go_wp2_with fail
            go_meet
            exact ⟨rfl, _, rfl⟩
        case rest =>
          obtain ⟨rfl, bb, rfl⟩ := hcut
          cases bb
          · have H10 : Hid (Calls Try.prog 10 #[.slice (some ⟨bI, oI, none⟩) K cI] (w.drewN q1) (DPost I (w.drewN q1))) := by
              have := distinct10 bI oI cI I (w.drewN q1) (by omega) (by omega) (fun j hj => HI.out j (by omega))
              rw [hIl] at this
              exact this
            go_upto_if 150 with (go_at_call 10; refine H10.out.mono ?_; rintro e w1 ⟨r, rfl, hnd, hbel⟩; have HN1 : Hid (r = true → I.Nodup) := hnd; have HB1 : Hid (Below w.heap.size w w1) := ⟨hbel.os, hbel.tape, hbel.output, hbel.size, hbel.block⟩; clear hnd hbel)
            cases r
            · go_wp2_with fail
              go_ret
              exact ⟨rfl, HB1.out⟩
            · have HNI : Hid I.Nodup := HN1.out rfl
              clear HN1 H10
              have b1 := HB1.out
              have cl1 : w1.cell? ⟨bE, oE + (K - 1), none⟩ = some (.int .i64 en) := by rw [World.cell?_of_block (b1.block bE (World.block_lt_of_cell? w _ cl))]; exact cl
              clear b1 cl
              have H11 : Hid (Calls Try.prog 11 #[.int .i64 cap0, .int .i64 en, .int .u64 en0] w1 _) := newRecord cap0 en en0 w1
              go_upto_block 4 with (first | (go_at_call 11; refine H11.out.mono ?_; rintro e w2 ⟨rfl, hb2, hs2, hr2, hm2⟩; clear cl1 H11; have HB2 : Hid (Below w1.heap.size w1 w2) := hb2; have HS2 : Hid (w2.heap.size = w1.heap.size + 2) := hs2; have HR2 : Hid (w2.heap[w1.heap.size + 1]? = _) := hr2; have HM2 : Hid (w2.heap[w1.heap.size]? = _) := hm2; clear hb2 hs2 hr2 hm2) | (go_at_call 12; refine (newPath _).mono ?_; rintro e w3 ⟨rfl, hb3, hs3, hp3⟩; have HB3 : Hid (Below w2.heap.size w2 w3) := hb3; have HS3 : Hid (w3.heap.size = w2.heap.size + 1) := hs3; have HP3 : Hid (w3.heap[w2.heap.size]? = _) := hp3; clear hb3 hs3 hp3))
              have HOB : Hid (Owns w w3 (w1.heap.size + 1) w2.heap.size w1.heap.size (dB cap0 en en0 I E K 0) (fun _ => False) ∧ Below w.heap.size w w3) := start_owns HB1.out HB2.out HS2.out HR2.out HM2.out HB3.out HS3.out HP3.out
              clear HB1 HB2 HS2 HR2 HM2 HB3 HS3 HP3
              generalize w1.heap.size + 1 = rb at *
              generalize w2.heap.size = pb at *
              generalize w1.heap.size = mb at *
              go_cut [18] from 160 to 182 (fun s18 wx => Owns w wx rb pb mb (dB cap0 en en0 I E K K) (fun _ => False) ∧ Below w.heap.size w wx)
              case first =>
                go_wp2_with fail
                go_loopg [18] K (fun g s18 wx => ∃ j : Nat, s18 = .int .i64 j ∧ j ≤ K ∧ K - j ≤ g ∧ Owns w wx rb pb mb (dB cap0 en en0 I E K j) (fun _ => False) ∧ Below w.heap.size w wx)
                case atStart => exact ⟨0, rfl, Nat.zero_le _, by omega, HOB.out.1, HOB.out.2⟩
                case round =>
                  obtain ⟨j, rfl, hjK, hjg, hown, hbel⟩ := hrel
                  clear HOB
                  have HO : Hid (Owns w wr rb pb mb (dB cap0 en en0 I E K j) (fun _ => False)) := hown
                  have HB : Hid (Below w.heap.size w wr) := hbel
                  clear hown hbel
                  by_cases hjz : j = K
                  · have hjz' : ¬ (j : Int) < K := by omega
                    go_wp2_with fail
                    go_meet
                    subst hjz
                    exact ⟨HO.out, HB.out⟩
                  · have hjz' : (j : Int) < K := by omega
                    have i0 := in_cell HB.out (HI.out j (by omega))
                    have e0 := in_cell HB.out (HEc.out j (by omega))
                    generalize hid : I.getD j 0 = id at i0
                    generalize hee : E.getD j 0 = ee at e0
                    have HID : Hid (I.getD j 0 = id) := hid
                    have HEE : Hid (E.getD j 0 = ee) := hee
                    clear hid hee
                    obtain ⟨F, hst, hF⟩ := HO.out
                    have H13 : Hid (∀ q, Calls Try.prog 13 #[.pointer (some ⟨pb, 0, none⟩), .int .i64 id, .int .i64 ee] (wr.drewN q) fun e w' => e = .returned (.tuple #[]) ∧ St w.heap.size w' rb pb mb { dB cap0 en en0 I E K j with blocks := (dB cap0 en en0 I E K j).blocks ++ [(id, ee, 0)] } (grow F (wr.drewN q) w') ∧ Fr (wr.drewN q) w' F) := fun q => appendBlock w.heap.size (wr.drewN q) rb pb mb (dB cap0 en en0 I E K j) F id ee (hst.drewN q) (by show (mk I E _ j).length ≤ _; rw [mk_length]; omega)
                    go_wp2_with fail
                    go_cut [] from 165 to 174 (fun wx => St w.heap.size wx rb pb mb { dB cap0 en en0 I E K j with blocks := (dB cap0 en en0 I E K j).blocks ++ [(id, ee, 0)] } (grow F wr wx) ∧ Fr wr wx F)
                    case first =>
                      go_region_with (go_at_call 13; refine (H13.out _).mono ?_; rintro e w4 ⟨rfl, hs4, hf4⟩)
                      all_goals (go_wp2_with fail; go_meet)
                      all_goals exact ⟨hs4, ⟨hf4.os, hf4.tape, hf4.output, hf4.size, hf4.block⟩⟩
                    case rest =>
                      obtain ⟨hs4, hf4⟩ := hcut
                      have hps : Below w.heap.size w wc ∧ Calls Try.prog 14 #[.pointer (some ⟨rb, 0, none⟩), .int .i64 id, .pointer (some ⟨pb, 0, none⟩), .int .i64 j] wc fun e w' => e = .returned (.tuple #[]) ∧ Owns w w' rb pb mb (dB cap0 en en0 I E K (j + 1)) (fun _ => False) ∧ Below w.heap.size w w' := by
                        have e1 := HID.out
                        have e2 := HEE.out
                        subst e1
                        subst e2
                        exact place_step hF HB.out (by omega) hIl HNI.out hs4 hf4
                      have H14 : Hid (Calls Try.prog 14 #[.pointer (some ⟨rb, 0, none⟩), .int .i64 id, .pointer (some ⟨pb, 0, none⟩), .int .i64 j] wc fun e w' => e = .returned (.tuple #[]) ∧ Owns w w' rb pb mb (dB cap0 en en0 I E K (j + 1)) (fun _ => False) ∧ Below w.heap.size w w') := hps.2
                      have i1 : wc.cell? ⟨bI, oI + j, none⟩ = some (.int .i64 id) := by
                        rw [← HID.out]; exact in_cell hps.1 (HI.out j (by omega))
                      clear hps
                      clear hs4 hf4 hst hF i0 e0
                      go_wp2_with (go_at_call 14; refine H14.out.mono ?_; rintro e w5 ⟨rfl, ho5, hb5⟩; have HO5 : Hid (Owns w w5 rb pb mb (dB cap0 en en0 I E K (j + 1)) (fun _ => False)) := ho5; have HB5 : Hid (Below w.heap.size w w5) := hb5; clear ho5 hb5)
                      go_roundg (K - (j + 1))
                      case measure => omega
                      case rel => exact ⟨j + 1, by simp, by omega, Nat.le_refl _, HO5.out, HB5.out⟩
              case rest =>
                obtain ⟨ho, hb⟩ := hcut
                rw [← HEND.out] at ho
                have hctx : Ctx en0 bI oI bE oE bL oL K N I E L w := ⟨hIl, hEl, hLl, hK1, hK2, hN1, hN2, HI.out, HEc.out, HL.out, HER.out, by rw [HG0.out]; exact HE0.out, HINC.out, HNI.out, fun t ht => by have := HLR.out t ht; omega⟩
                go_step
                exact cntTail cap0 en0 bI oI cI bE oE cE bL oL cL K N I E L w hctx rb pb mb most wc ho hb hmK (fun t ht => (HLR.out t ht).2) HMX.out
          · go_wp2_with fail
            go_ret
            exact ⟨rfl, below_drewN _ _⟩
end Go.Proofs.Qxb6609224a.Rl
