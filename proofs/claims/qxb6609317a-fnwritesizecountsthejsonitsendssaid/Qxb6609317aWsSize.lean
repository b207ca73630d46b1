import Derived.Test.Qxb6609317aProg
import Derived.WalkKit
import Derived.WalkLawsBesides
import Derived.Outline
namespace Go.Proofs.Qxb6609317a
open Go.RowKit

/-- Row i of a block of submissions: all zero but for the two slices (Output, MetricsJSON). -/
structure SubRow (w : World) (sb i : Nat) (s4 s9 : Value) : Prop where
  c0 : w.cell? ⟨sb, i * 10, none⟩ = some (.int .i64 0)
  c1 : w.cell? ⟨sb, i * 10 + 1, none⟩ = some (.int .i64 0)
  c2 : w.cell? ⟨sb, i * 10 + 2, none⟩ = some (.string ByteArray.empty)
  c3 : w.cell? ⟨sb, i * 10 + 3, none⟩ = some (.string ByteArray.empty)
  c4 : w.cell? ⟨sb, i * 10 + 4, none⟩ = some s4
  c5 : w.cell? ⟨sb, i * 10 + 5, none⟩ = some (.pointer none)
  c6 : w.cell? ⟨sb, i * 10 + 6, none⟩ = some (.bool false)
  c7 : w.cell? ⟨sb, i * 10 + 7, none⟩ = some (.pointer none)
  c8 : w.cell? ⟨sb, i * 10 + 8, none⟩ = some (.pointer none)
  c9 : w.cell? ⟨sb, i * 10 + 9, none⟩ = some s9

set_option maxHeartbeats 400000 in
theorem size_job (jb : Nat) (pa : Option Addr) (pl pc : Nat) (w : World) (hj : w.cell? ⟨jb, 0, none⟩ = some (.slice pa pl pc)) (hjb : jb < w.heap.size) :
    Calls Try.prog 24 #[.agg #[.pointer (some ⟨jb, 0, none⟩), .pointer none, .pointer none]] w fun e w' => e = .returned (.int .i64 pl) ∧ Below w.heap.size w w' := by
  go_enter Try.func24, Try.ntmps24
  go_wp2
  go_ret
  exact ⟨rfl, (Below.refl _ _).alloc (Nat.le_refl _) _⟩

set_option maxHeartbeats 400000 in
theorem size_claim (jb : Nat) (w : World) :
    Calls Try.prog 24 #[.agg #[.pointer none, .pointer (some ⟨jb, 0, none⟩), .pointer none]] w fun e w' => e = .returned (.int .i64 0) ∧ Below w.heap.size w w' := by
  go_enter Try.func24, Try.ntmps24
  go_wp2
  go_ret
  exact ⟨rfl, (Below.refl _ _).alloc (Nat.le_refl _) _⟩

theorem SubRow.below {B : Nat} {w w' : World} {sb i : Nat} {s4 s9 : Value} (h : SubRow w sb i s4 s9) (hb : Below B w w') (hs : sb < B) : SubRow w' sb i s4 s9 :=
  ⟨(hb.cell (by exact hs)).trans h.c0, (hb.cell (by exact hs)).trans h.c1, (hb.cell (by exact hs)).trans h.c2, (hb.cell (by exact hs)).trans h.c3, (hb.cell (by exact hs)).trans h.c4,
   (hb.cell (by exact hs)).trans h.c5, (hb.cell (by exact hs)).trans h.c6, (hb.cell (by exact hs)).trans h.c7, (hb.cell (by exact hs)).trans h.c8, (hb.cell (by exact hs)).trans h.c9⟩

def sums (L : Nat → Nat) : Nat → Nat | 0 => 0 | n + 1 => sums L n + (L (2 * n) + L (2 * n + 1))

theorem sums_mono (L : Nat → Nat) (k n : Nat) (h : k ≤ n) : sums L k ≤ sums L n := by
  induction n with
  | zero => obtain rfl : k = 0 := by omega
            exact Nat.le_refl _
  | succ n ih =>
    by_cases e : k = n + 1
    · subst e; exact Nat.le_refl _
    · have := ih (by omega)
      simp only [sums]; omega

set_option maxHeartbeats 400000 in
theorem size_hand (hb sb n : Nat) (A : Nat → Option Addr) (L C : Nat → Nat) (w : World) (hh : w.cell? ⟨hb, 0, none⟩ = some (.slice (some ⟨sb, 0, none⟩) n n)) (hhb : hb < w.heap.size) (hsb : sb < w.heap.size)
   (hrow : ∀ i, i < n → SubRow w sb i (.slice (A (2 * i)) (L (2 * i)) (C (2 * i))) (.slice (A (2 * i + 1)) (L (2 * i + 1)) (C (2 * i + 1)))) (hsum : sums L n ≤ 1048576) (hn : n ≤ 1048576) :
    Calls Try.prog 24 #[.agg #[.pointer none, .pointer none, .pointer (some ⟨hb, 0, none⟩)]] w fun e w' => e = .returned (.int .i64 (sums L n : Nat)) ∧ Below w.heap.size w w' := by
  go_enter Try.func24, Try.ntmps24
  go_wp2
  go_loopw [3, 24] (fun t i wr => ∃ k : Nat, k ≤ n ∧ i = .int .i64 k ∧ t = .int .i64 (sums L k : Nat) ∧ Below w.heap.size w wr) (fun _ i _ => n - (intOf i).toNat)
  case atStart => exact ⟨0, Nat.zero_le _, rfl, rfl, (Below.refl _ _).alloc (Nat.le_refl _) _⟩
  case round =>
    obtain ⟨k, hk, rfl, rfl, hnx⟩ := hrel
    have hm := sums_mono L k n hk
    by_cases hlt : k < n
    · have hm1 := sums_mono L (k + 1) n hlt
      have hR := (hrow k hlt).below hnx hsb
      obtain ⟨c0, c1, c2, c3, c4, c5, c6, c7, c8, c9⟩ := hR
      have hsz := hnx.size
      have hs1 : sums L (k + 1) = sums L k + (L (2 * k) + L (2 * k + 1)) := rfl
      have b1 : L (2 * k) ≤ 1048576 := by omega
      have b2 : L (2 * k + 1) ≤ 1048576 := by omega
      have HS1 : Hid (sums L (k + 1) = sums L k + (L (2 * k) + L (2 * k + 1))) := hs1
      clear hs1 hrow
      go_wp2
      go_roundw
      case rel => exact ⟨k + 1, hlt, by go_num, by rw [HS1.out]; go_num, hnx.alloc hsz _⟩
      case measure => simp [intOf]; omega
    · obtain rfl : k = n := by omega
      go_wp2
      go_ret
      exact ⟨rfl, hnx⟩

end Go.Proofs.Qxb6609317a
