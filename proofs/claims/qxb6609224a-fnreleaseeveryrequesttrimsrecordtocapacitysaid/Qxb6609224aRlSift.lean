import Derived.Test.Qxb6609224aRlState
import Derived.Sort.LotB
import Derived.BigQuiet
import Derived.Deep.LoopGhost
namespace Go.Proofs.Qxb6609224a.Rl
open Go.RowKit

def lt (a b : Int) : Bool := decide (a < b)
theorem lt_swo : Sort.SWO lt := ⟨fun x => by simp [lt], fun x y z h1 h2 => by simp [lt] at *; omega, fun x y z h1 h2 => by simp [lt] at *; omega⟩

abbrev sd (n i : Nat) (d : Array Int) : Array Int := Sort.siftDown lt n 0 i d

theorem sd_end {n i : Nat} (d : Array Int) (h : n ≤ 2 * i + 1) : sd n i d = d := by unfold sd; rw [Sort.siftDown, dif_pos h]
theorem sd_right_stop {n i : Nat} (d : Array Int) (h1 : 2 * i + 2 < n) (h2 : d[2 * i + 1]! < d[2 * i + 2]!) (h3 : d[2 * i + 2]! ≤ d[i]!) : sd n i d = d := by
  unfold sd
  rw [Sort.siftDown, dif_neg (by omega)]
  simp only [Nat.zero_add, show 2 * i + 1 + 1 = 2 * i + 2 by omega, lt, decide_eq_true h2, h1, decide_true, Bool.and_self, if_true, decide_eq_false (show ¬ d[i]! < d[2 * i + 2]! by omega), Bool.not_false]
theorem sd_right_go {n i : Nat} (d : Array Int) (h1 : 2 * i + 2 < n) (h2 : d[2 * i + 1]! < d[2 * i + 2]!) (h3 : d[i]! < d[2 * i + 2]!) : sd n i d = sd n (2 * i + 2) (Sort.swp d i (2 * i + 2)) := by
  unfold sd
  rw [Sort.siftDown, dif_neg (by omega)]
  simp only [Nat.zero_add, show 2 * i + 1 + 1 = 2 * i + 2 by omega, lt, decide_eq_true h2, h1, decide_true, Bool.and_self, if_true, decide_eq_true h3, Bool.not_true, Bool.false_eq_true, if_false, dif_pos]
theorem sd_left_stop {n i : Nat} (d : Array Int) (h0 : 2 * i + 1 < n) (h1 : 2 * i + 2 < n → d[2 * i + 2]! ≤ d[2 * i + 1]!) (h3 : d[2 * i + 1]! ≤ d[i]!) : sd n i d = d := by
  unfold sd
  rw [Sort.siftDown, dif_neg (by omega)]
  simp only [Nat.zero_add, show 2 * i + 1 + 1 = 2 * i + 2 by omega, lt]
  rw [if_neg, if_pos]
  · simp; omega
  · simp; exact h1
theorem sd_left_go {n i : Nat} (d : Array Int) (h0 : 2 * i + 1 < n) (h1 : 2 * i + 2 < n → d[2 * i + 2]! ≤ d[2 * i + 1]!) (h3 : d[i]! < d[2 * i + 1]!) : sd n i d = sd n (2 * i + 1) (Sort.swp d i (2 * i + 1)) := by
  unfold sd
  rw [Sort.siftDown, dif_neg (by omega)]
  simp only [Nat.zero_add, show 2 * i + 1 + 1 = 2 * i + 2 by omega, lt]
  rw [if_neg, if_neg]
  · simp; omega
  · simp; exact h1

/-- Block g holds these numbers. -/
def Rw (w : World) (g : Nat) (d : Array Int) : Prop := w.heap[g]? = some (.cells (d.map (Value.int .i64)) 2 (0, 0))
theorem Rw.cell {w : World} {g : Nat} {d : Array Int} (h : Rw w g d) (j : Nat) (hj : j < d.size) : w.cell? ⟨g, j, none⟩ = some (.int .i64 d[j]!) := by
  rw [cell_of_row _ _ _ _ _ _ h]
  simp [hj]
theorem Rw.frozen {w : World} {g : Nat} {d : Array Int} (h : Rw w g d) (j : Nat) : w.frozen? ⟨g, j, none⟩ = false := frozen_of_row _ _ _ _ _ h
theorem Rw.set {w : World} {g : Nat} {d : Array Int} (h : Rw w g d) (j : Nat) (x : Int) : Rw (w.setCell ⟨g, j, none⟩ (.int .i64 x)) g (d.setIfInBounds j x) := by
  have := heap_setCell_same w g j _ 2 (.int .i64 x) h
  unfold Rw
  rw [this]
  simp [Array.map_setIfInBounds]
theorem Rw.swp {w : World} {g : Nat} {d : Array Int} (h : Rw w g d) (i j : Nat) : Rw ((w.setCell ⟨g, i, none⟩ (.int .i64 d[j]!)).setCell ⟨g, j, none⟩ (.int .i64 d[i]!)) g (Sort.swp d i j) := (h.set i _).set j _

set_option maxRecDepth 100000 in
set_option maxHeartbeats 2000000 in
theorem sift43 (g : Nat) (d : Array Int) (i n : Nat) (w : World) (hg : Rw w g d) (hn : n ≤ d.size) (hi : i ≤ n) (hs : d.size ≤ 1048576) :
    Calls Try.prog 43 #[.slice (some ⟨g, 0, none⟩) d.size d.size, .int .i64 i, .int .i64 n] w fun e w' => e = .returned (.tuple #[]) ∧ Rw w' g (sd n i d) ∧ Fr w w' (fun b => b = g) := by
  go_enter Try.func43, Try.ntmps43
  go_wp2_with fail
  go_loopg [1] (n - i) (fun k s1 wr => ∃ (root : Nat) (dk : Array Int), s1 = .int .i64 root ∧ root ≤ n ∧ n - root ≤ k ∧ dk.size = d.size ∧ Rw wr g dk ∧ Fr w wr (fun b => b = g) ∧ sd n root dk = sd n i d)
  case atStart => exact ⟨i, d, rfl, hi, Nat.le_refl _, rfl, hg, Fr.refl _ _, rfl⟩
  case round =>
    obtain ⟨root, dk, rfl, hr, hk, hds, hrw, hfr, heq⟩ := hrel
    have HR : Hid (Rw wr g dk) := hrw
    have HF : Hid (Fr w wr (fun b => b = g)) := hfr
    have HE : Hid (sd n root dk = sd n i d) := heq
    clear hrw hfr heq hg
    have hrs : (root : Int) ≤ 1048576 := by omega
    by_cases h0 : n ≤ 2 * root + 1
    · have h0z : (n : Int) ≤ 2 * (root : Int) + 1 := by omega
      go_wp2_with fail
      refine bodyPost_ret (results_none rfl _ _ _) rfl ?_
      refine ⟨rfl, ?_, HF.out⟩
      rw [← HE.out, sd_end dk h0]
      exact HR.out
    · have h0z : ¬ ((n : Int) ≤ 2 * (root : Int) + 1) := by omega
      have h0y : 2 * (root : Int) + 1 < (n : Int) := by omega
      have c0 := HR.out.cell root (by omega)
      have c1 := HR.out.cell (2 * root + 1) (by omega)
      have f0 := HR.out.frozen root
      have f1 := HR.out.frozen (2 * root + 1)
      have hdn : (n : Int) ≤ (d.size : Int) := by omega
      by_cases h1 : 2 * root + 2 < n
      · have h1z : 2 * (root : Int) + 1 + 1 < (n : Int) := by omega
        have c2 := HR.out.cell (2 * root + 2) (by omega)
        have f2 := HR.out.frozen (2 * root + 2)
        by_cases hL : dk[2 * root + 1]! < dk[2 * root + 2]!
        · have HL : Hid (dk[2 * root + 1]! < dk[2 * root + 2]!) := hL
          have hLd : decide (dk[2 * root + 1]! < dk[2 * root + 2]!) = true := decide_eq_true hL
          generalize ex : dk[root]! = x at *
          generalize ey : dk[2 * root + 2]! = y at *
          have EX : Hid (dk[root]! = x) := ex
          have EY : Hid (dk[2 * root + 2]! = y) := ey
          clear ex ey
          by_cases h3 : y ≤ x
          · have h3d : decide (y ≤ x) = true := decide_eq_true h3
            go_wp2_with fail
            go_quiet (fail)
            go_wp2_with fail
            go_quiet (fail)
            go_wp2_with fail
            refine bodyPost_ret (results_none rfl _ _ _) rfl ?_
            refine ⟨rfl, ?_, (HF.out.drewN _).drewN _⟩
            rw [← HE.out, sd_right_stop dk h1 (by rw [EY.out]; exact HL.out) (by rw [EX.out, EY.out]; exact h3)]
            exact HR.out
          · have h3d : decide (y ≤ x) = false := decide_eq_false h3
            have h3z : x < y := by omega
            go_wp2_with fail
            go_quiet (fail)
            go_wp2_with fail
            go_quiet (fail)
            go_wp2_with fail
            go_roundg (n - (2 * root + 2))
            case measure => omega
            case rel =>
              refine ⟨2 * root + 2, Sort.swp dk root (2 * root + 2), by rw [show ((2 * root + 2 : Nat) : Int) = 2 * (root : Int) + 1 + 1 by omega], by omega, Nat.le_refl _, by simp [Sort.swp, hds], ?_, ?_, by rw [← HE.out, ← sd_right_go dk h1 (by rw [EY.out]; exact HL.out) (by rw [EX.out, EY.out]; exact h3z)]⟩
              · have := HR.out.swp root (2 * root + 2)
                rw [EX.out, EY.out] at this
                exact this
              · exact ((HF.out.drewN _).setCell ⟨g, root, none⟩ _ (Or.inl rfl)).setCell ⟨g, 2 * root + 2, none⟩ _ (Or.inl rfl)
        · have HL : Hid (dk[2 * root + 2]! ≤ dk[2 * root + 1]!) := by show _ ≤ _; omega
          have hLd : decide (dk[2 * root + 1]! < dk[2 * root + 2]!) = false := decide_eq_false hL
          generalize ex : dk[root]! = x at *
          generalize ey : dk[2 * root + 1]! = y at *
          have EX : Hid (dk[root]! = x) := ex
          have EY : Hid (dk[2 * root + 1]! = y) := ey
          clear ex ey
          by_cases h3 : y ≤ x
          · have h3d : decide (y ≤ x) = true := decide_eq_true h3
            go_wp2_with fail
            go_quiet (fail)
            go_wp2_with fail
            go_quiet (fail)
            go_wp2_with fail
            refine bodyPost_ret (results_none rfl _ _ _) rfl ?_
            refine ⟨rfl, ?_, (HF.out.drewN _).drewN _⟩
            rw [← HE.out, sd_left_stop dk (by omega) (fun _ => by rw [EY.out]; exact HL.out) (by rw [EX.out, EY.out]; exact h3)]
            exact HR.out
          · have h3d : decide (y ≤ x) = false := decide_eq_false h3
            have h3z : x < y := by omega
            go_wp2_with fail
            go_quiet (fail)
            go_wp2_with fail
            go_quiet (fail)
            go_wp2_with fail
            go_roundg (n - (2 * root + 1))
            case measure => omega
            case rel =>
              refine ⟨2 * root + 1, Sort.swp dk root (2 * root + 1), by rw [show ((2 * root + 1 : Nat) : Int) = 2 * (root : Int) + 1 by omega], by omega, Nat.le_refl _, by simp [Sort.swp, hds], ?_, ?_, by rw [← HE.out, ← sd_left_go dk (by omega) (fun _ => by rw [EY.out]; exact HL.out) (by rw [EX.out, EY.out]; exact h3z)]⟩
              · have := HR.out.swp root (2 * root + 1)
                rw [EX.out, EY.out] at this
                exact this
              · exact ((HF.out.drewN _).setCell ⟨g, root, none⟩ _ (Or.inl rfl)).setCell ⟨g, 2 * root + 1, none⟩ _ (Or.inl rfl)
      · have h1z : ¬ 2 * (root : Int) + 1 + 1 < (n : Int) := by omega
        have h1d : decide (2 * (root : Int) + 1 + 1 < (n : Int)) = false := decide_eq_false h1z
        generalize ex : dk[root]! = x at *
        generalize ey : dk[2 * root + 1]! = y at *
        have EX : Hid (dk[root]! = x) := ex
        have EY : Hid (dk[2 * root + 1]! = y) := ey
        clear ex ey
        by_cases h3 : y ≤ x
        · have h3d : decide (y ≤ x) = true := decide_eq_true h3
          go_wp2_with fail
          go_quiet (fail)
          go_wp2_with fail
          go_quiet (fail)
          go_wp2_with fail
          refine bodyPost_ret (results_none rfl _ _ _) rfl ?_
          refine ⟨rfl, ?_, (HF.out.drewN _).drewN _⟩
          rw [← HE.out, sd_left_stop dk (by omega) (fun h => absurd h h1) (by rw [EX.out, EY.out]; exact h3)]
          exact HR.out
        · have h3d : decide (y ≤ x) = false := decide_eq_false h3
          have h3z : x < y := by omega
          go_wp2_with fail
          go_quiet (fail)
          go_wp2_with fail
          go_quiet (fail)
          go_wp2_with fail
          go_roundg (n - (2 * root + 1))
          case measure => omega
          case rel =>
            refine ⟨2 * root + 1, Sort.swp dk root (2 * root + 1), by rw [show ((2 * root + 1 : Nat) : Int) = 2 * (root : Int) + 1 by omega], by omega, Nat.le_refl _, by simp [Sort.swp, hds], ?_, ?_, by rw [← HE.out, ← sd_left_go dk (by omega) (fun h => absurd h h1) (by rw [EX.out, EY.out]; exact h3z)]⟩
            · have := HR.out.swp root (2 * root + 1)
              rw [EX.out, EY.out] at this
              exact this
            · exact ((HF.out.drewN _).setCell ⟨g, root, none⟩ _ (Or.inl rfl)).setCell ⟨g, 2 * root + 1, none⟩ _ (Or.inl rfl)
end Go.Proofs.Qxb6609224a.Rl
