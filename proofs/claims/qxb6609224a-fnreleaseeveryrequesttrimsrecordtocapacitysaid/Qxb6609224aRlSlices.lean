import Derived.Test.Qxb6609224aRlFile
import Derived.Deep.RegionLaw
import Derived.Lib.SliceRun
namespace Go.Proofs.Qxb6609224a.Rl
open Go.RowKit

theorem setCells_block (g : Nat) (t : TypeId) (vs : List Value) : ∀ (o : Nat) (w : World) (cur : Array Value), w.heap[g]? = some (.cells cur t (0, 0)) →
    ∃ cur', (w.setCells g o vs).heap[g]? = some (.cells cur' t (0, 0)) ∧ cur'.size = cur.size ∧ ∀ j : Nat, cur'[j]? = if o ≤ j ∧ j < o + vs.length ∧ j < cur.size then vs[j - o]? else cur[j]? := by
  induction vs with
  | nil => intro o w cur h; exact ⟨cur, h, rfl, fun j => by rw [if_neg (by simp; omega)]⟩
  | cons v r ih =>
    intro o w cur h
    obtain ⟨cur', h1, h2, h3⟩ := ih (o + 1) (w.setCell ⟨g, o, none⟩ v) _ (heap_setCell_same w g o cur t v h)
    refine ⟨cur', h1, by rw [h2]; simp, fun j => ?_⟩
    rw [h3]
    simp only [Array.size_setIfInBounds, List.length_cons]
    by_cases e : j = o
    · subst e
      rw [if_neg (by omega)]
      by_cases hs : j < cur.size
      · rw [if_pos (by omega), Array.getElem?_setIfInBounds_self_of_lt hs]; simp
      · rw [if_neg (by omega), Array.getElem?_eq_none (by simp; omega), Array.getElem?_eq_none (by omega)]
    · rw [Array.getElem?_setIfInBounds_ne (Ne.symm e)]
      by_cases hc : o + 1 ≤ j ∧ j < o + 1 + r.length ∧ j < cur.size
      · rw [if_pos hc, if_pos (by omega), show j - o = (j - (o + 1)) + 1 by omega]; simp
      · rw [if_neg hc, if_neg (by omega)]

theorem setCells_grown (b : Nat) (vs : List Value) : ∀ (o : Nat) (w : World), w.grownBy (w.setCells b o vs) (some b) := by
  induction vs with
  | nil => intro o w; exact World.grownBy.refl _ _
  | cons v r ih =>
    intro o w
    have h := ih (o + 1) (w.setCell ⟨b, o, none⟩ v)
    refine ⟨h.os, h.tape, h.output, by have := h.size; simp at this; exact this, fun k hk hne => ?_⟩
    have := h.block k (by simpa using hk) hne
    refine this.trans (Below.heap_setCell _ _ _ _ ?_)
    intro e; exact hne (by rw [e])

/-- What stands behind the removed element goes one to the left; the last cell is cleared. -/
theorem deleted (B g n cap m : Nat) (S : List Int) (w : World) (ho : w.ownsRow B 3 1 (.slice (some ⟨g, 0, none⟩) n cap) n (S.map (Value.int .i64))) (hm : 1 ≤ m) (hmn : m ≤ n) :
    ((w.setCells g (m - 1) ((S.drop m).map (Value.int .i64))).setCells g (n - 1) [.int .i64 0]).ownsRow B 3 1 (.slice (some ⟨g, 0, none⟩) (n - 1) cap) (n - 1) ((S.eraseIdx (m - 1)).map (Value.int .i64)) := by
  have hlen : S.length = n := by have := ho.1; simpa using this
  rcases ho.2 with ⟨h, _⟩ | ⟨g', cap', cur, h, hb, hg, hnc, hcm, hcs, htake⟩
  · simp at h
  · simp only [Value.slice.injEq, Option.some.injEq, Addr.mk.injEq, and_true, true_and] at h
    obtain ⟨rfl, rfl⟩ := h
    obtain ⟨c1, h1, s1, g1⟩ := setCells_block g 3 ((S.drop m).map (Value.int .i64)) (m - 1) w cur hg
    obtain ⟨c2, h2, s2, g2⟩ := setCells_block g 3 [.int .i64 0] (n - 1) _ c1 h1
    have hel : (S.eraseIdx (m - 1)).length = n - 1 := by rw [List.length_eraseIdx_of_lt (by omega)]; omega
    refine ⟨by simp [hel], Or.inr ⟨g, cap, c2, rfl, hb, h2, by omega, hcm, by rw [s2, s1, hcs], ?_⟩⟩
    apply List.ext_getElem?
    intro j
    rw [List.getElem?_take]
    by_cases hj : j < (n - 1) * 1
    · rw [if_pos hj]
      have hj' : j < n - 1 := by omega
      have e2 : c2[j]? = c1[j]? := by rw [g2, if_neg (by simp; omega)]
      have e1 := g1 j
      have hcur : ∀ k, k < n → cur[k]? = some (.int .i64 (S[k]?.getD 0)) := fun k hk => by
        have := congrArg (fun l => l[k]?) htake
        simp only [List.getElem?_take, Nat.mul_one, hk, if_true, List.getElem?_map] at this
        rw [List.getElem?_eq_getElem (show k < S.length by omega)] at this ⊢
        simpa using this
      have hl : c2.toList[j]? = c2[j]? := by simp
      have hr : ((S.eraseIdx (m - 1)).map (Value.int .i64))[j]? = (if j < m - 1 then S[j]? else S[j + 1]?).map (Value.int .i64) := by
        rw [List.getElem?_map, List.getElem?_eraseIdx]
      rw [hl, e2, e1, hr]
      simp only [List.length_map, List.length_drop]
      by_cases hjm : j < m - 1
      · rw [if_neg (by omega), if_pos hjm, hcur j (by omega), List.getElem?_eq_getElem (show j < S.length by omega)]; rfl
      · rw [if_pos (by omega), if_neg hjm, List.getElem?_map, List.getElem?_drop, show m + (j - (m - 1)) = j + 1 by omega]
    · rw [if_neg hj, List.getElem?_eq_none (by simp [hel]; omega)]

end Go.Proofs.Qxb6609224a.Rl
