import Derived.Test.Qxb6609317aProg
import Derived.WalkKit
import Derived.WalkLawsBesides
import Derived.Outline
namespace Go.Proofs.Qxb6609317a
open Go.RowKit

/-- A call has returned a bool; where it is true, p holds. -/
def IsBool (p : Prop) (e : Ending) : Prop := ∃ r : Bool, e = .returned (.bool r) ∧ (r = true → p)
theorem IsBool.no {p : Prop} : IsBool p (.returned (.bool false)) := ⟨false, rfl, fun h => by cases h⟩
theorem IsBool.yes {p : Prop} (h : p) : IsBool p (.returned (.bool true)) := ⟨true, rfl, fun _ => h⟩

theorem step_le {L : Nat → Nat} {m B : Nat} (h : ∀ j, j < m → L j ≤ B) (hm : L m ≤ B) : ∀ j, j < m + 1 → L j ≤ B := fun j hj => by
  by_cases e : j = m
  · subst e; exact hm
  · exact h j (by omega)

set_option maxHeartbeats 400000 in
theorem bytes_some (h1 h2 h3 : Bool) (pa : Option Addr) (pl pc : Nat) (sa : Option Addr) (b off len cap : Nat) (A : Nat → Option Addr) (L C : Nat → Nat) (w : World) (hpl : pl ≤ maxLen) (hlen : len ≤ maxLen) (hL : ∀ i, L i ≤ maxLen) (hsa : 0 < len → sa = some ⟨b, off, none⟩)
    (hc : ∀ i, i < len → w.cell? ⟨b, off + i * 2, none⟩ = some (.slice (A (2 * i)) (L (2 * i)) (C (2 * i))) ∧ w.cell? ⟨b, off + i * 2 + 1, none⟩ = some (.slice (A (2 * i + 1)) (L (2 * i + 1)) (C (2 * i + 1)))) :
    Calls Try.prog 20 #[.bool h1, .slice pa pl pc, .bool h2, .bool h3, .slice sa len cap] w fun e w' => IsBool (∀ j, j < 2 * len → L j ≤ 1048576) e ∧ w' = w := by
  unfold maxLen at hpl hlen hL
  have HSA : Hid (0 < len → sa = some ⟨b, off, none⟩) := hsa
  clear hsa
  by_cases g1 : (1048576 : Int) < pl
  · go_enter Try.func20, Try.ntmps20
    go_wp2
    go_ret
    exact ⟨IsBool.no, rfl⟩
  by_cases g2 : (1048576 : Int) < len
  · go_enter Try.func20, Try.ntmps20
    go_wp2
    go_ret
    exact ⟨IsBool.no, rfl⟩
  by_cases g3 : (1048576 : Int) < pl + len
  · go_enter Try.func20, Try.ntmps20
    go_wp2
    go_ret
    exact ⟨IsBool.no, rfl⟩
  go_enter Try.func20, Try.ntmps20
  go_wp2
  go_loop [11, 12] (fun n i => ∃ (z : Int) (k : Nat), n = .int .i64 z ∧ i = .int .i64 k ∧ k ≤ len ∧ 0 ≤ z ∧ z ≤ 1048576 ∧ Hid (∀ j, j < 2 * k → L j ≤ 1048576)) (fun _ i => len - (intOf i).toNat)
  case atStart => exact ⟨_, 0, rfl, rfl, by omega, by omega, by omega, fun j hj => absurd hj (by omega)⟩
  case round =>
    obtain ⟨z, k, rfl, rfl, hk, hz0, hz1, HT⟩ := hrel
    by_cases hlt : k < len
    · obtain rfl := HSA.out (by omega)
      clear HSA
      go_wp2
      go_loop [11, 13] (fun n j => ∃ (z : Int) (h : Nat), n = .int .i64 z ∧ j = .int .i64 h ∧ h ≤ 2 ∧ 0 ≤ z ∧ z ≤ 1048576 ∧ Hid (∀ j, j < 2 * k + h → L j ≤ 1048576)) (fun _ j => 2 - (intOf j).toNat)
      case atStart => exact ⟨_, 0, rfl, rfl, by omega, by omega, by omega, HT⟩
      case round =>
        obtain ⟨z, h, rfl, rfl, hh, hz0, hz1, HT2⟩ := hrel
        obtain ⟨c0, c1⟩ := hc k hlt
        have l0 := hL (2 * k)
        have l1 := hL (2 * k + 1)
        clear hc hL
        rcases (show h = 0 ∨ h = 1 ∨ h = 2 by omega) with rfl | rfl | rfl
        · go_wp2
          · go_ret
            exact ⟨IsBool.no, rfl⟩
          · go_ret
            exact ⟨IsBool.no, rfl⟩
          · go_round
            case rel => exact ⟨_, 1, rfl, by go_num, by omega, by omega, by omega, step_le HT2.out (by omega)⟩
            case measure => simp [intOf]
        · go_wp2
          · go_ret
            exact ⟨IsBool.no, rfl⟩
          · go_ret
            exact ⟨IsBool.no, rfl⟩
          · go_round
            case rel => exact ⟨_, 2, rfl, by go_num, by omega, by omega, by omega, step_le HT2.out (by omega)⟩
            case measure => simp [intOf]
        · go_wp2
          go_round
          case rel => exact ⟨_, k + 1, rfl, by go_num, by omega, by omega, by omega, HT2.out⟩
          case measure => simp [intOf]; omega
    · go_wp2
      go_ret
      exact ⟨IsBool.yes (fun j hj => HT.out j (by omega)), rfl⟩
end Go.Proofs.Qxb6609317a
