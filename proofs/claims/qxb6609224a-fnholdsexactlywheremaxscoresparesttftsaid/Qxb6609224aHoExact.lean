import Derived.Test.Qxb6609224aHoCalls
namespace Go.Proofs.Qxb6609224a
open Go.RowKit

set_option maxHeartbeats 400000 in
theorem bytes33 (h : Bool) (s k : ByteArray) (t p : Int) (w : World) (hs : s.size ≤ maxLen) (hk : k.size ≤ maxLen) :
    Calls Try.prog 33 #[.bool h, .string s, .string k, .int .i64 t, .int .i64 p] w fun e w' => e = .returned (.bool (decide (s.size + k.size ≤ 1048576))) ∧ w = w' := by
  unfold maxLen at hs hk
  by_cases g1 : (1048576 : Int) < s.size
  · go_enter Try.func33, Try.ntmps33
    go_wp2
    go_ret
    exact ⟨by simp; omega, rfl⟩
  by_cases g2 : (1048576 : Int) < k.size
  · go_enter Try.func33, Try.ntmps33
    go_wp2
    go_ret
    exact ⟨by simp; omega, rfl⟩
  by_cases g3 : (1048576 : Int) < s.size + k.size
  · go_enter Try.func33, Try.ntmps33
    go_wp2
    go_ret
    exact ⟨by simp; omega, rfl⟩
  go_enter Try.func33, Try.ntmps33
  go_wp2
  go_ret
  exact ⟨by simp; omega, rfl⟩

set_option maxRecDepth 100000 in
set_option maxHeartbeats 2000000 in
theorem exactly_small (h : Bool) (s k : ByteArray) (t p : Int) (w : World) (hs : s.size ≤ 65536) (hk : k.size ≤ 65536) :
    Calls Try.prog 6 #[.bool h, .string s, .string k, .int .i64 t, .int .i64 p] w fun e w' => e = .returned (.bool true) ∧ Below w.heap.size w w' := by
  have HB := bytes33 h s k t p w (by unfold maxLen; omega) (by unfold maxLen; omega)
  rw [decide_eq_true (by omega)] at HB
  go_enter Try.func6, Try.ntmps6
  go_wp2_with fail
  refine HB.mono ?_
  rintro e w1 ⟨rfl, rfl⟩
  clear HB
  go_wp2_with fail
  refine (headroom h s k w).mono ?_
  rintro e w1 ⟨rfl, hb1, hz1, c3, c4, c5, c6⟩
  have C3 : Hid _ := c3
  have C4 : Hid _ := c4
  have C5 : Hid _ := c5
  have C6 : Hid _ := c6
  have hl1 : w.heap.size < w1.heap.size := by omega
  clear c3 c4 c5 c6 hz1
  go_wp2_with fail
  refine (request t p w1).mono ?_
  rintro e w2 ⟨rfl, hb2⟩
  go_wp2_with (with_reducible refine wpList_store_new (op := ⟨none, .store 55 (.tmp 12) (.tmp 37), _, _, _, none⟩) ?g1 55 (.tmp 12) (.tmp 37) ?g2 w2.heap.size (reqCells t p) ?g3 ?g4 ?ht ?hi ?h1 w1.heap.size w1 ?hb ?hB ?next)
  case g1 => rfl
  case g2 => rfl
  case g3 => rfl
  case g4 => rfl
  case hi => kernel_rfl
  case h1 => exact req_one t p
  case ht => exact there_new w2 _ 55 _ (Nat.le_refl 24)
  case hb => exact hb2.alloc hb2.size _
  case hB => exact hb2.size
  intro W hr hbW
  have HR : Hid _ := hr
  have c3 := (hbW.cell (p := ⟨w.heap.size, 3, none⟩) hl1).trans C3.out
  have c4 := (hbW.cell (p := ⟨w.heap.size, 4, none⟩) hl1).trans C4.out
  have c5 := (hbW.cell (p := ⟨w.heap.size, 5, none⟩) hl1).trans C5.out
  have c6 := (hbW.cell (p := ⟨w.heap.size, 6, none⟩) hl1).trans C6.out
  have hlW := Nat.lt_of_lt_of_le hl1 hbW.size
  clear hr
  go_wp2_with fail
  refine (holds31 w.heap.size h s W c3 c6).mono ?_
  rintro e w3 ⟨rfl, rfl⟩
  go_wp2_with (with_reducible refine wpList_load_mid (op := ⟨some 41, .load 55 (.tmp 12), _, _, _, none⟩) ?k1 55 (.tmp 12) ?k2 w2.heap.size 0 ?k3 (reqCells t p) _ ?k4 Try.underlying55 ?k5 ?k6 ?knext)
  case k1 => rfl
  case k2 => rfl
  case k3 => rfl
  case k4 => exact HR.out
  case k5 => rfl
  case k6 => kernel_rfl
  refine (ttft34 w.heap.size s k t p W c3 c4 c5 hlW).mono ?_
  rintro e w4 ⟨rfl, hb4⟩
  have hend : Below w.heap.size w w4 := hb1.trans ((hbW.trans (hb4.mono hbW.size)).mono hb1.size)
  clear hb4 c3 c4 c5 c6 hbW hlW hb2 hb1 hl1
  cases hf : (s.toList == [102, 101, 119, 101, 115, 116, 45, 109, 105, 115, 115, 101, 115]) <;> cases hm : (k.toList == [109, 97, 120, 45, 115, 99, 111, 114, 101]) <;> cases ht : (t == 0) <;> cases hp : (p == 0) <;> cases h
  all_goals
    have hF : isFewest s = _ := hf
    have hM : isMax k = _ := hm
    rw [hF, hM]
    have ht' : (t != 0) = _ := congrArg not ht
    have hp' : (p != 0) = _ := congrArg not hp
    go_wp2
    go_ret
    exact ⟨rfl, hend⟩

set_option maxHeartbeats 400000 in
theorem exactly_all (h : Bool) (s k : ByteArray) (t p : Int) (w : World) (hs : s.size ≤ maxLen) (hk : k.size ≤ maxLen) :
    Calls Try.prog 6 #[.bool h, .string s, .string k, .int .i64 t, .int .i64 p] w fun e w' => e = .returned (.bool true) ∧ Below w.heap.size w w' := by
  by_cases h1 : s.size ≤ 65536 ∧ k.size ≤ 65536
  · exact exactly_small h s k t p w h1.1 h1.2
  have HB := bytes33 h s k t p w hs hk
  unfold maxLen at hs hk
  by_cases h2 : s.size + k.size ≤ 1048576
  · rw [decide_eq_true h2] at HB
    by_cases h3 : (65536 : Int) < s.size
    · clear h1
      go_enter Try.func6, Try.ntmps6
      go_wp2_with fail
      refine HB.mono ?_
      rintro e w1 ⟨rfl, rfl⟩
      clear HB
      go_wp2
      go_ret
      exact ⟨rfl, Below.refl _ _⟩
    · have h4 : (65536 : Int) < k.size := by omega
      clear h1
      go_enter Try.func6, Try.ntmps6
      go_wp2_with fail
      refine HB.mono ?_
      rintro e w1 ⟨rfl, rfl⟩
      clear HB
      go_wp2
      go_ret
      exact ⟨rfl, Below.refl _ _⟩
  · rw [decide_eq_false h2] at HB
    clear h1
    go_enter Try.func6, Try.ntmps6
    go_wp2_with fail
    refine HB.mono ?_
    rintro e w1 ⟨rfl, rfl⟩
    clear HB
    go_wp2
    go_ret
    exact ⟨rfl, Below.refl _ _⟩
end Go.Proofs.Qxb6609224a
