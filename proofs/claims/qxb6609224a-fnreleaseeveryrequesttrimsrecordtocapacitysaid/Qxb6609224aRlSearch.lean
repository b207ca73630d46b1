import Derived.Test.Qxb6609224aRlDel
import Derived.BigQuiet
import Derived.Shelf.Lay
import Derived.Shelf.Slices.SearchI
namespace Go.Proofs.Qxb6609224a
open Go.Shelf Go.Lib Go.RowKit
shelf_lay Lays2.n25 Nm2 25 at Try as Try.lays25
namespace Rl

theorem search57 (B g n cap : Nat) (S : List Int) (x : Int) (w : World) (ho : w.ownsRow B 3 1 (.slice (some ⟨g, 0, none⟩) n cap) n (S.map (Value.int .i64))) (hs : S.Pairwise (· ≤ ·)) (hn : n ≤ 1048576) :
    Calls Try.prog 57 #[.slice (some ⟨g, 0, none⟩) n cap, .int .i64 x] w fun e w' => e = .returned (.tuple #[.int .i64 (S.countP (· < x) : Nat), .bool (S.contains x)]) ∧ ∃ q, w' = w.drewN q := by
  have hlen : S.length = n := by have := ho.1; simpa using this
  have htk : S.take n = S := by rw [← hlen]; simp
  have := Any.slices_BinarySearch_int Try.lays25 g 0 n cap S x w (by omega) (by omega) (fun j hj => by
    rw [Nat.zero_add, ho.cellAt j (by omega), List.getElem?_map, List.getElem?_eq_getElem hj]
    simp [List.getD, hj]) (by rw [htk]; exact hs)
  rw [htk] at this
  exact this

/-- The stops behind a release of block i: the last of those at i is taken out. -/
def drop1 (S : List Int) (i : Int) : List Int := S.eraseIdx (S.countP (· < i + 1) - 1)

theorem drop1_at (S : List Int) (i : Int) (hs : S.Pairwise (· ≤ ·)) (hi : i ∈ S) : 1 ≤ S.countP (· < i + 1) ∧ ∃ h : S.countP (· < i + 1) - 1 < S.length, S[S.countP (· < i + 1) - 1] = i := by
  have hpos : 0 < S.countP (· < i + 1) := List.countP_pos_iff.2 ⟨i, hi, by simp; omega⟩
  have hle := List.countP_le_length (p := fun x => decide (x < i + 1)) (l := S)
  refine ⟨hpos, by omega, ?_⟩
  induction S with
  | nil => simp at hi
  | cons a r ih =>
    rw [List.pairwise_cons] at hs
    by_cases ha : a < i + 1
    · have e : (a :: r).countP (· < i + 1) = r.countP (· < i + 1) + 1 := List.countP_cons_of_pos (by simpa using ha)
      by_cases hr : i ∈ r
      · have h1 : 0 < r.countP (· < i + 1) := List.countP_pos_iff.2 ⟨i, hr, by simp; omega⟩
        have := ih hs.2 hr h1 (List.countP_le_length)
        simp only [e]
        have e2 : r.countP (· < i + 1) + 1 - 1 = (r.countP (· < i + 1) - 1) + 1 := by omega
        simp only [e2, List.getElem_cons_succ]
        exact this
      · have hai : a = i := by
          rcases List.mem_cons.1 hi with h | h
          · exact h.symm
          · exact absurd h hr
        have h0 : r.countP (· < i + 1) = 0 := by
          rw [List.countP_eq_zero]
          intro y hy
          have := hs.1 y hy
          have : y ≠ i := fun e => hr (e ▸ hy)
          simp; omega
        simp only [e, h0]
        exact hai
    · exfalso
      rcases List.mem_cons.1 hi with h | h
      · omega
      · have := hs.1 i h; omega

theorem erase_perm : ∀ (l : List Int) (k : Nat) (h : k < l.length), (l[k] :: l.eraseIdx k).Perm l
  | a :: r, 0, _ => by simp
  | a :: r, k + 1, h => by
    have := erase_perm r k (by simpa using h)
    simp only [List.getElem_cons_succ, List.eraseIdx_cons_succ]
    exact (List.Perm.swap _ _ _).trans (this.cons a)

theorem drop1_perm (S : List Int) (i : Int) (hs : S.Pairwise (· ≤ ·)) (hi : i ∈ S) : (i :: drop1 S i).Perm S := by
  obtain ⟨_, h, e⟩ := drop1_at S i hs hi
  have := erase_perm S _ h
  rw [e] at this
  exact this
theorem drop1_sorted (S : List Int) (i : Int) (hs : S.Pairwise (· ≤ ·)) : (drop1 S i).Pairwise (· ≤ ·) := List.Pairwise.sublist (List.eraseIdx_sublist _ _) hs
theorem drop1_length (S : List Int) (i : Int) (hs : S.Pairwise (· ≤ ·)) (hi : i ∈ S) : (drop1 S i).length = S.length - 1 := by
  have := (drop1_perm S i hs hi).length_eq
  simp at this; omega
theorem drop1_count (S : List Int) (i j : Int) (hs : S.Pairwise (· ≤ ·)) (hi : i ∈ S) : S.count j = (drop1 S i).count j + (if j = i then 1 else 0) := by
  rw [← (drop1_perm S i hs hi).count_eq, List.count_cons]
  by_cases e : j = i
  · simp [e]
  · have : ¬ i = j := fun h => e h.symm
    simp [e, this]
end Rl
end Go.Proofs.Qxb6609224a
