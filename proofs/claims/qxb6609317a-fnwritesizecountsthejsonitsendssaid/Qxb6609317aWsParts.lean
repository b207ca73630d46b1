import Derived.Test.Qxb6609317aWsSize
import Derived.Deep.OwnRows
namespace Go.Proofs.Qxb6609317a
open Go.RowKit

def zero10 : Array Value := #[.int .i64 0, .int .i64 0, .string ByteArray.empty, .string ByteArray.empty, .slice none 0 0, .pointer none, .bool false, .pointer none, .pointer none, .slice none 0 0]

/-- What cell j of the block of submissions holds when k rows have been filled. -/
def subAt (A : Nat → Option Addr) (L C : Nat → Nat) (k j : Nat) : Value :=
  if j % 10 = 4 then (if j / 10 < k then .slice (A (2 * (j / 10))) (L (2 * (j / 10))) (C (2 * (j / 10))) else .slice none 0 0)
  else if j % 10 = 9 then (if j / 10 < k then .slice (A (2 * (j / 10) + 1)) (L (2 * (j / 10) + 1)) (C (2 * (j / 10) + 1)) else .slice none 0 0)
  else zero10[j % 10]!

theorem sub_start (A : Nat → Option Addr) (L C : Nat → Nat) (w : World) (n : Nat) :
    (w.alloc (.cells (madeCells zero10 (n * 10)) 57)).rowIs w.heap.size 57 (n * 10) (subAt A L C 0) := by
  have h := World.rowIs_alloc w (madeCells zero10 (n * 10)) 57 (subAt A L C 0) (by
    intro i hi
    rw [size_madeCells] at hi
    have hz : zero10.size = 10 := rfl
    simp only [madeCells, hz, Array.getElem?_map, Array.getElem?_range, hi, if_true, Option.map_some, Option.some.injEq]
    unfold subAt
    by_cases h4 : i % 10 = 4
    · rw [if_pos h4, h4, if_neg (by omega)]; rfl
    · rw [if_neg h4]
      by_cases h9 : i % 10 = 9
      · rw [if_pos h9, h9, if_neg (by omega)]; rfl
      · rw [if_neg h9])
  rwa [size_madeCells] at h

theorem sub_four (A : Nat → Option Addr) (L C : Nat → Nat) (k : Nat) : subAt A L C k (k * 10 + 4) = .slice none 0 0 := by
  unfold subAt; rw [if_pos (by omega), if_neg (by omega)]
theorem sub_nine (A : Nat → Option Addr) (L C : Nat → Nat) (k : Nat) : subAt A L C k (k * 10 + 9) = .slice none 0 0 := by
  unfold subAt; rw [if_neg (by omega), if_pos (by omega), if_neg (by omega)]

theorem sub_step (A : Nat → Option Addr) (L C : Nat → Nat) (w : World) (g n k : Nat) (h : w.rowIs g 57 (n * 10) (subAt A L C k)) :
    ((w.setCell ⟨g, k * 10 + 4, none⟩ (.slice (A (2 * k)) (L (2 * k)) (C (2 * k)))).setCell ⟨g, k * 10 + 9, none⟩ (.slice (A (2 * k + 1)) (L (2 * k + 1)) (C (2 * k + 1)))).rowIs g 57 (n * 10) (subAt A L C (k + 1)) := by
  refine ((h.set _ _).set _ _).congr fun j _ => ?_
  by_cases h9 : j = k * 10 + 9
  · subst h9
    rw [if_pos rfl]; unfold subAt
    rw [if_neg (by omega), if_pos (by omega), if_pos (by omega), show (k * 10 + 9) / 10 = k by omega]
  · rw [if_neg h9]
    by_cases h4 : j = k * 10 + 4
    · subst h4
      rw [if_pos rfl]; unfold subAt
      rw [if_pos (by omega), if_pos (by omega), show (k * 10 + 4) / 10 = k by omega]
    · rw [if_neg h4]; unfold subAt
      by_cases m4 : j % 10 = 4
      · rw [if_pos m4, if_pos m4]
        by_cases hl : j / 10 < k
        · rw [if_pos hl, if_pos (by omega)]
        · rw [if_neg hl, if_neg (by omega)]
      · rw [if_neg m4, if_neg m4]
        by_cases m9 : j % 10 = 9
        · rw [if_pos m9, if_pos m9]
          by_cases hl : j / 10 < k
          · rw [if_pos hl, if_pos (by omega)]
          · rw [if_neg hl, if_neg (by omega)]
        · rw [if_neg m9, if_neg m9]

theorem sub_row (A : Nat → Option Addr) (L C : Nat → Nat) (w : World) (g n : Nat) (h : w.rowIs g 57 (n * 10) (subAt A L C n)) (i : Nat) (hi : i < n) :
    SubRow w g i (.slice (A (2 * i)) (L (2 * i)) (C (2 * i))) (.slice (A (2 * i + 1)) (L (2 * i + 1)) (C (2 * i + 1))) := by
  have key : ∀ j, j < 10 → w.cell? ⟨g, i * 10 + j, none⟩ = some (subAt A L C n (i * 10 + j)) := fun j hj => h.cell (by omega)
  have zz : ∀ j, j < 10 → j ≠ 4 → j ≠ 9 → subAt A L C n (i * 10 + j) = zero10[j]! := fun j h1 h2 h3 => by
    unfold subAt; rw [if_neg (by omega), if_neg (by omega), show (i * 10 + j) % 10 = j by omega]
  refine ⟨?_, ?_, ?_, ?_, ?_, ?_, ?_, ?_, ?_, ?_⟩
  · have := key 0 (by omega); rw [zz 0 (by omega) (by omega) (by omega)] at this; exact this
  · have := key 1 (by omega); rw [zz 1 (by omega) (by omega) (by omega)] at this; exact this
  · have := key 2 (by omega); rw [zz 2 (by omega) (by omega) (by omega)] at this; exact this
  · have := key 3 (by omega); rw [zz 3 (by omega) (by omega) (by omega)] at this; exact this
  · rw [key 4 (by omega)]; unfold subAt; rw [if_pos (by omega), if_pos (by omega), show (i * 10 + 4) / 10 = i by omega]
  · have := key 5 (by omega); rw [zz 5 (by omega) (by omega) (by omega)] at this; exact this
  · have := key 6 (by omega); rw [zz 6 (by omega) (by omega) (by omega)] at this; exact this
  · have := key 7 (by omega); rw [zz 7 (by omega) (by omega) (by omega)] at this; exact this
  · have := key 8 (by omega); rw [zz 8 (by omega) (by omega) (by omega)] at this; exact this
  · rw [key 9 (by omega)]; unfold subAt; rw [if_neg (by omega), if_pos (by omega), if_pos (by omega), show (i * 10 + 9) / 10 = i by omega]

end Go.Proofs.Qxb6609317a
