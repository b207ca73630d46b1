import Derived.Test.Qxb6609317aWsLaws
import Derived.Deep.DeepCutAuto
import Derived.Deep.DeepMust
namespace Go.Proofs.Qxb6609317a
open Go.RowKit

set_option maxRecDepth 100000 in
set_option maxHeartbeats 1000000 in
theorem main (h1 h2 h3 : Bool) (pa : Option Addr) (pl pc : Nat) (pz : List Int) (sa : Option Addr) (b off n cap : Nat) (A : Nat → Option Addr) (L C : Nat → Nat) (Z : Nat → List Int) (w : World) (hpl : pl ≤ maxLen) (hlen : n ≤ maxLen) (hL : ∀ i, L i ≤ maxLen)
    (hp : Bytes w pa pl pc pz) (hsa : 0 < n → sa = some ⟨b, off, none⟩) (hb : 0 < n → b < w.heap.size)
    (hc : ∀ i, i < n → w.cell? ⟨b, off + i * 2, none⟩ = some (.slice (A (2 * i)) (L (2 * i)) (C (2 * i))) ∧ w.cell? ⟨b, off + i * 2 + 1, none⟩ = some (.slice (A (2 * i + 1)) (L (2 * i + 1)) (C (2 * i + 1))))
    (hz : ∀ j, j < 2 * n → Bytes w (A j) (L j) (C j) (Z j)) :
    Calls Try.prog 6 #[.bool h1, .slice pa pl pc, .bool h2, .bool h3, .slice sa n cap] w fun e w' => e = .returned (.bool true) ∧ Below w.heap.size w w' := by
  have HB := bytes_some h1 h2 h3 pa pl pc sa b off n cap A L C w hpl hlen hL hsa hc
  unfold maxLen at hpl hlen hL
  have hn32 : ∀ (w : World) (a : Option Addr) (n c n' c' : Nat), (binOp .neq 32 (.slice a n c) (.slice none n' c')).run Try.prog w = .ok (.bool (!a.isNone)) w := fun w a n c n' c' => run_neq_slice_nil_any w _ _ a n c n' c' Try.underlying32
  have HSA : Hid (0 < n → sa = some ⟨b, off, none⟩) := hsa
  have HBL : Hid (0 < n → b < w.heap.size) := hb
  have HC : Hid _ := hc
  have HZ : Hid _ := hz
  have HP : Hid _ := hp
  clear hsa hb hc hz hp
  go_enter Try.func6, Try.ntmps6
  go_wp2_with fail
  refine HB.mono ?_
  rintro e w1 ⟨⟨r, rfl, hr⟩, rfl⟩
  have HR : Hid _ := hr
  clear HB hr hL
  cases r
  · go_wp2
    go_ret
    exact ⟨rfl, Below.refl _ _⟩
  by_cases g1 : (1048576 : Int) < pl
  · go_wp2
    go_ret
    exact ⟨rfl, Below.refl _ _⟩
  by_cases g2 : (16384 : Int) < n
  · go_wp2
    go_ret
    exact ⟨rfl, Below.refl _ _⟩
  go_upto_if 34 with fail
  go_cut [1, 11] (fun p _ wr => ∃ (pa' : Option Addr) (pc' : Nat), p = .slice pa' pl pc' ∧ Below w1.heap.size w1 wr)
  case first =>
    cases pa with
    | none =>
      go_wp2
      go_meet
      case rel => exact ⟨none, pc, rfl, Below.refl _ _⟩
    | some x =>
      have hmk := run_make_row' (P := Try.prog) 32 5 (.int .u8 0) 1 Try.underlying32 info5 rfl .i64 .i64 pl (by omega) (by omega)
      obtain ⟨w2, hcp, hb2⟩ := copy_run w1 x pl pc pz HP.out
      go_wp2
      go_meet
      case rel => exact ⟨_, pl, rfl, hb2⟩
  case rest =>
    obtain ⟨pa', pc', rfl, hw⟩ := hcut
    by_cases g4 : (1048576 : Int) < pl + 48 * n
    · go_wp2
      go_ret
      exact ⟨rfl, hw⟩
    go_wp2
    go_loop [12, 13] (fun t i => ∃ k : Nat, k ≤ n ∧ i = .int .i64 k ∧ t = .int .i64 (pl + 48 * n + (sums L k : Nat)) ∧ pl + 48 * n + sums L k ≤ 1048576) (fun _ i => n - (intOf i).toNat)
    case atStart => exact ⟨0, Nat.zero_le _, rfl, by simp [sums], by simp [sums]; omega⟩
    case round =>
      obtain ⟨k, hk, rfl, rfl, hsum⟩ := hrel
      by_cases hlt : k < n
      · obtain rfl := HSA.out (by omega)
        have hbl := HBL.out (by omega)
        obtain ⟨e0, e1⟩ := HC.out k hlt
        have d0 := (hw.cell (p := ⟨b, off + k * 2, none⟩) hbl).trans e0
        have d1 := (hw.cell (p := ⟨b, off + k * 2 + 1, none⟩) hbl).trans e1
        have l0 := HR.out trivial (2 * k) (by omega)
        have l1 := HR.out trivial (2 * k + 1) (by omega)
        have HS : Hid (sums L (k + 1) = sums L k + (L (2 * k) + L (2 * k + 1))) := rfl
        clear e0 e1
        go_wp2
        · go_ret
          exact ⟨rfl, hw⟩
        · go_ret
          exact ⟨rfl, hw⟩
        · go_round
          case rel => exact ⟨k + 1, hlt, by go_num, by rw [HS.out]; go_num, by rw [HS.out]; omega⟩
          case measure => simp [intOf]; omega
      · obtain rfl : k = n := by omega
        have hs2 : sums L k ≤ 1048576 := by omega
        cases h1 <;> cases h2 <;> cases h3
        · go_wp2
          go_ret
          exact ⟨rfl, hw⟩
        · go_wp2_with fail
          refine (write_hand pa' pl pc' sa b off k cap A L C _ (by omega) (fun h => Nat.lt_of_lt_of_le (HBL.out h) hw.size) hs2 HSA.out (fun i hi => ⟨(hw.cell (p := ⟨b, off + i * 2, none⟩) (HBL.out (by omega))).trans (HC.out i hi).1, (hw.cell (p := ⟨b, off + i * 2 + 1, none⟩) (HBL.out (by omega))).trans (HC.out i hi).2⟩)).mono ?_
          rintro e w3 ⟨rfl, hb3⟩
          have hw3 := hw.trans (hb3.mono hw.size)
          clear hb3 hw
          obtain ⟨i0, hi, hz0, hz1, hz2⟩ := info_parts info5
          go_wp2_with fail
          go_loopw [17, 18] (fun v i wr => ∃ (j : Nat) (xs : List Value), j ≤ k ∧ i = .int .i64 j ∧ wr.ownsRow w1.heap.size 5 1 v (evens L j) xs ∧ Below w1.heap.size w1 wr) (fun _ i _ => k - (intOf i).toNat)
          case atStart => exact ⟨0, [], Nat.zero_le _, rfl, World.ownsRow_nil _ _ _ _, hw3⟩
          case round =>
            obtain ⟨j, xs, hj, rfl, hown, hnx⟩ := hrel
            by_cases hlt2 : j < k
            · obtain rfl := HSA.out (by omega)
              have hbl := HBL.out (by omega)
              have d0 := (hnx.cell (p := ⟨b, off + j * 2, none⟩) hbl).trans (HC.out j hlt2).1
              have hev := evens_mono L (j + 1) k hlt2
              have hsp : evens L k + odds L k ≤ 1048576 := by have := sums_split L k; omega
              have HE : Hid (evens L (j + 1) = evens L j + L (2 * j)) := rfl
              have hev0 := evens_mono L j k hj
              have hbz := (HZ.out (2 * j) (by omega)).below hnx rfl
              have hsz := hnx.size
              have HBZ : Hid _ := hbz
              have HO : Hid _ := hown
              have hl : evens L j + L (2 * j) ≤ 2097152 := by have := HE.out; omega
              clear hbz hown
              go_wp2_with (at_builtin; go_must (refine append_bytes rfl (.tmp 103) (.tmp 108) rfl w1.heap.size _ _ _ rfl HO.out _ _ _ rfl _ HBZ.out hl hsz ?_))
              intro v' w4 xs' hown' hb4
              have HO' : Hid _ := hown'
              clear hown'
              go_wp2
              go_roundw
              case rel => first | exact ⟨j + 1, xs', hlt2, by go_num, HO'.out, hnx.trans hb4⟩ | ((repeat apply Exists.intro); exact ⟨⟨j + 1, xs', hlt2, by go_num, HO'.out, hnx.trans hb4⟩, rfl⟩)
              case measure => simp [intOf]; omega
            · obtain rfl : j = k := by omega
              go_wp2_with fail
              go_loopw [17, 19] (fun v i wr => ∃ (m : Nat) (xs : List Value), m ≤ j ∧ i = .int .i64 m ∧ wr.ownsRow w1.heap.size 5 1 v (evens L j + odds L m) xs ∧ Below w1.heap.size w1 wr) (fun _ i _ => j - (intOf i).toNat)
              case atStart => exact ⟨0, xs, Nat.zero_le _, rfl, hown, hnx⟩
              case round =>
                clear hown hnx
                obtain ⟨m, xs, hm, rfl, hown, hnx⟩ := hrel
                have hsp : evens L j + odds L j ≤ 1048576 := by have := sums_split L j; omega
                by_cases hlt3 : m < j
                · obtain rfl := HSA.out (by omega)
                  have hbl := HBL.out (by omega)
                  have d1 := (hnx.cell (p := ⟨b, off + m * 2 + 1, none⟩) hbl).trans (HC.out m hlt3).2
                  have hev := odds_mono L (m + 1) j hlt3
                  have HE : Hid (odds L (m + 1) = odds L m + L (2 * m + 1)) := rfl
                  have hev0 := odds_mono L m j hm
                  have hbz := (HZ.out (2 * m + 1) (by omega)).below hnx rfl
                  have hsz := hnx.size
                  have HBZ : Hid _ := hbz
                  have HO : Hid _ := hown
                  have hl : evens L j + odds L m + L (2 * m + 1) ≤ 2097152 := by have := HE.out; omega
                  clear hbz hown
                  go_wp2_with (at_builtin; go_must (refine append_bytes rfl (.tmp 116) (.tmp 121) rfl w1.heap.size _ _ _ rfl HO.out _ _ _ rfl _ HBZ.out hl hsz ?_))
                  intro v' w4 xs' hown' hb4
                  have HO' : Hid _ := hown'
                  clear hown'
                  go_wp2
                  go_roundw
                  case rel => first | exact ⟨m + 1, xs', hlt3, by go_num, by rw [HE.out, ← Nat.add_assoc]; exact HO'.out, hnx.trans hb4⟩ | ((repeat apply Exists.intro); exact ⟨⟨m + 1, xs', hlt3, by go_num, by rw [HE.out, ← Nat.add_assoc]; exact HO'.out, hnx.trans hb4⟩, rfl⟩)
                  case measure => simp [intOf]; omega
                · obtain rfl : m = j := by omega
                  obtain ⟨va, vc, rfl⟩ := owns_len hown
                  clear hown
                  go_wp2
                  go_ret
                  refine ⟨?_, hnx⟩
                  have e : ((sums L m : Nat) : Int) = ((evens L m + odds L m : Nat) : Int) := by rw [sums_split]
                  simp [e]
        · go_wp2_with fail
          refine (write_claim pa' pl pc' sa k cap _).mono ?_
          rintro e w3 ⟨rfl, hb3⟩
          go_wp2
          go_ret
          exact ⟨rfl, hw.trans (hb3.mono hw.size)⟩
        · go_wp2
          go_ret
          exact ⟨rfl, hw⟩
        · go_wp2_with fail
          refine (write_job pa' pl pc' sa k cap _).mono ?_
          rintro e w3 ⟨rfl, hb3⟩
          go_wp2
          go_ret
          exact ⟨by simp, hw.trans (hb3.mono hw.size)⟩
        all_goals
          go_wp2
          go_ret
          exact ⟨rfl, hw⟩
end Go.Proofs.Qxb6609317a
