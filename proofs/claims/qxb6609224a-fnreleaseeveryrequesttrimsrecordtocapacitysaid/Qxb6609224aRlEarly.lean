import Derived.Test.Qxb6609224aRlState
namespace Go.Proofs.Qxb6609224a.Rl
open Go.RowKit

set_option maxHeartbeats 1000000 in
theorem zzBytes (x y : Value) (a2 a3 a4 : Option Addr) (n2 c2 n3 c3 n4 c4 : Nat) (w : World) (h2 : n2 ≤ maxLen) (h3 : n3 ≤ maxLen) (h4 : n4 ≤ maxLen) :
    Calls Try.prog 9 #[x, y, .slice a2 n2 c2, .slice a3 n3 c3, .slice a4 n4 c4] w fun e w' => e = .returned (.bool (decide (n2 + n3 + n4 ≤ 1048576))) ∧ w = w' := by
  unfold maxLen at h2 h3 h4
  by_cases k2 : n2 ≤ 1048576
  · by_cases k3 : n3 ≤ 1048576
    · by_cases k23 : n2 + n3 ≤ 1048576
      · by_cases k4 : n4 ≤ 1048576
        · by_cases k : n2 + n3 + n4 ≤ 1048576
          · rw [decide_eq_true k]
            have i2 : (n2 : Int) ≤ 1048576 := by omega
            have i3 : (n3 : Int) ≤ 1048576 := by omega
            have i4 : (n4 : Int) ≤ 1048576 := by omega
            have i23 : (n2 : Int) + n3 ≤ 1048576 := by omega
            have i234 : (n2 : Int) + n3 + n4 ≤ 1048576 := by omega
            go_enter Try.func9, Try.ntmps9
            go_wp2
            go_ret
            exact ⟨rfl, rfl⟩
          · rw [decide_eq_false k]
            have i2 : (n2 : Int) ≤ 1048576 := by omega
            have i3 : (n3 : Int) ≤ 1048576 := by omega
            have i4 : (n4 : Int) ≤ 1048576 := by omega
            have i23 : (n2 : Int) + n3 ≤ 1048576 := by omega
            have i234 : (1048576 : Int) < (n2 : Int) + n3 + n4 := by omega
            go_enter Try.func9, Try.ntmps9
            go_wp2
            go_ret
            exact ⟨rfl, rfl⟩
        · rw [decide_eq_false (by omega)]
          have i2 : (n2 : Int) ≤ 1048576 := by omega
          have i3 : (n3 : Int) ≤ 1048576 := by omega
          have i23 : (n2 : Int) + n3 ≤ 1048576 := by omega
          have i4 : (1048576 : Int) < n4 := by omega
          go_enter Try.func9, Try.ntmps9
          go_wp2
          go_ret
          exact ⟨rfl, rfl⟩
      · rw [decide_eq_false (by omega)]
        have i2 : (n2 : Int) ≤ 1048576 := by omega
        have i3 : (n3 : Int) ≤ 1048576 := by omega
        have i23 : (1048576 : Int) < (n2 : Int) + n3 := by omega
        go_enter Try.func9, Try.ntmps9
        go_wp2
        go_ret
        exact ⟨rfl, rfl⟩
    · rw [decide_eq_false (by omega)]
      have i2 : (n2 : Int) ≤ 1048576 := by omega
      have i3 : (1048576 : Int) < n3 := by omega
      go_enter Try.func9, Try.ntmps9
      go_wp2
      go_ret
      exact ⟨rfl, rfl⟩
  · rw [decide_eq_false (by omega)]
    have i2 : (1048576 : Int) < n2 := by omega
    go_enter Try.func9, Try.ntmps9
    go_wp2
    go_ret
    exact ⟨rfl, rfl⟩

/-- The lengths with which the law says something. -/
def Lens (n2 n3 n4 : Nat) : Prop := n2 = n3 ∧ 1 ≤ n3 ∧ n3 ≤ 65536 ∧ 1 ≤ n4 ∧ n4 ≤ 4096 ∧ 8 * n2 + 8 * n3 + 8 * n4 ≤ 1048576

set_option maxRecDepth 100000 in
set_option maxHeartbeats 2000000 in
theorem early (x y : Int) (a2 a3 a4 : Option Addr) (n2 c2 n3 c3 n4 c4 : Nat) (w : World) (h2 : n2 ≤ maxLen) (h3 : n3 ≤ maxLen) (h4 : n4 ≤ maxLen) (hL : ¬ Lens n2 n3 n4) :
    Calls Try.prog 3 #[.int .i64 x, .int .u64 y, .slice a2 n2 c2, .slice a3 n3 c3, .slice a4 n4 c4] w fun e w' => e = .returned (.bool true) ∧ w = w' := by
  have H9 : Hid (∀ v u, Calls Try.prog 9 #[v, u, .slice a2 n2 c2, .slice a3 n3 c3, .slice a4 n4 c4] w fun e w' => e = .returned (.bool (decide (n2 + n3 + n4 ≤ 1048576))) ∧ w = w') := fun v u => zzBytes v u a2 a3 a4 n2 c2 n3 c3 n4 c4 w h2 h3 h4
  by_cases k : n2 + n3 + n4 ≤ 1048576
  · rw [decide_eq_true k] at H9
    by_cases k2 : n2 ≤ 65536
    · have i2 : (n2 : Int) ≤ 65536 := by omega
      by_cases k3 : n3 ≤ 65536
      · have i3 : (n3 : Int) ≤ 65536 := by omega
        by_cases k4 : n4 ≤ 4096
        · have i4 : (n4 : Int) ≤ 4096 := by omega
          by_cases k8 : 8 * n2 + 8 * n3 + 8 * n4 ≤ 1048576
          · have i8 : 8 * (n2 : Int) + 8 * (n3 : Int) + 8 * (n4 : Int) ≤ 1048576 := by omega
            by_cases z3 : n3 = 0
            · subst z3
              clear hL
              go_enter Try.func3, Try.ntmps3
              go_wp2_with (go_at_call 9; refine (H9.out _ _).mono ?_; rintro e w' ⟨rfl, rfl⟩)
              go_ret
              exact ⟨rfl, rfl⟩
            · have j3 : ¬ (n3 : Int) = 0 := by omega
              by_cases z2 : n2 = n3
              · subst z2
                have z4 : n4 = 0 := by
                  rcases Nat.eq_zero_or_pos n4 with h | h
                  · exact h
                  · exact absurd ⟨rfl, by omega, k3, h, k4, k8⟩ hL
                subst z4
                clear hL
                go_enter Try.func3, Try.ntmps3
                go_wp2_with (go_at_call 9; refine (H9.out _ _).mono ?_; rintro e w' ⟨rfl, rfl⟩)
                go_ret
                exact ⟨rfl, rfl⟩
              · have j2 : ¬ (n2 : Int) = (n3 : Int) := by omega
                clear hL
                go_enter Try.func3, Try.ntmps3
                go_wp2_with (go_at_call 9; refine (H9.out _ _).mono ?_; rintro e w' ⟨rfl, rfl⟩)
                go_ret
                exact ⟨rfl, rfl⟩
          · have i8 : (1048576 : Int) < 8 * (n2 : Int) + 8 * (n3 : Int) + 8 * (n4 : Int) := by omega
            clear hL
            go_enter Try.func3, Try.ntmps3
            go_wp2_with (go_at_call 9; refine (H9.out _ _).mono ?_; rintro e w' ⟨rfl, rfl⟩)
            go_ret
            exact ⟨rfl, rfl⟩
        · have i4 : (4096 : Int) < n4 := by omega
          clear hL
          go_enter Try.func3, Try.ntmps3
          go_wp2_with (go_at_call 9; refine (H9.out _ _).mono ?_; rintro e w' ⟨rfl, rfl⟩)
          go_ret
          exact ⟨rfl, rfl⟩
      · have i3 : (65536 : Int) < n3 := by omega
        clear hL
        go_enter Try.func3, Try.ntmps3
        go_wp2_with (go_at_call 9; refine (H9.out _ _).mono ?_; rintro e w' ⟨rfl, rfl⟩)
        go_ret
        exact ⟨rfl, rfl⟩
    · have i2 : (65536 : Int) < n2 := by omega
      clear hL
      go_enter Try.func3, Try.ntmps3
      go_wp2_with (go_at_call 9; refine (H9.out _ _).mono ?_; rintro e w' ⟨rfl, rfl⟩)
      go_ret
      exact ⟨rfl, rfl⟩
  · rw [decide_eq_false k] at H9
    clear hL
    go_enter Try.func3, Try.ntmps3
    go_wp2_with (go_at_call 9; refine (H9.out _ _).mono ?_; rintro e w' ⟨rfl, rfl⟩)
    go_ret
    exact ⟨rfl, rfl⟩
end Go.Proofs.Qxb6609224a.Rl
