import Derived.Test.Qxb6609224aRlPlain
namespace Go.Proofs.Qxb6609224a.Rl
open Go.RowKit

/-- The stops as they are filed: each j as often as C tells. -/
def fill (C : Nat → Nat) (n : Nat) : List Int := (List.range n).flatMap fun t => List.replicate (C t) (t : Int)
theorem fill_succ (C : Nat → Nat) (n : Nat) : fill C (n + 1) = fill C n ++ List.replicate (C n) (n : Int) := by simp [fill, List.range_succ]
theorem fill_zero (C : Nat → Nat) : fill C 0 = [] := rfl
theorem fill_mem (C : Nat → Nat) : ∀ (n : Nat) (x : Int), x ∈ fill C n → 0 ≤ x ∧ x < n := by
  intro n
  induction n with
  | zero => intro x hx; simp [fill_zero] at hx
  | succ n ih =>
    intro x hx
    rw [fill_succ] at hx
    rcases List.mem_append.1 hx with h | h
    · have := ih x h; omega
    · have := (List.mem_replicate.1 h).2; omega
theorem fill_sorted (C : Nat → Nat) : ∀ n : Nat, (fill C n).Pairwise (· ≤ ·) := by
  intro n
  induction n with
  | zero => simp [fill_zero]
  | succ n ih =>
    rw [fill_succ, List.pairwise_append]
    refine ⟨ih, ?_, fun a ha b hb => ?_⟩
    · rw [List.pairwise_replicate]; exact Or.inr (Int.le_refl _)
    · have := fill_mem C n a ha
      have := (List.mem_replicate.1 hb).2
      omega
theorem fill_count (C : Nat → Nat) : ∀ (n j : Nat), (fill C n).count (j : Int) = if j < n then C j else 0 := by
  intro n
  induction n with
  | zero => intro j; simp [fill_zero]
  | succ n ih =>
    intro j
    rw [fill_succ, List.count_append, ih, List.count_replicate]
    by_cases e : n = j
    · subst e; simp
    · have e' : ((n : Int) == (j : Int)) = false := by simp; omega
      simp only [e', Bool.false_eq_true, if_false, Nat.add_zero]
      by_cases h : j < n
      · rw [if_pos h, if_pos (show j < n + 1 by omega)]
      · rw [if_neg h, if_neg (show ¬ j < n + 1 by omega)]
theorem fill_perm (L : List Int) (K : Nat) (C : Nat → Nat) (hC : ∀ j, j < K → C j = L.count (j : Int)) (hL : ∀ x ∈ L, 0 ≤ x ∧ x < K) : (fill C K).Perm L := by
  rw [List.perm_iff_count]
  intro x
  by_cases h : 0 ≤ x ∧ x < K
  · obtain ⟨j, rfl⟩ := Int.eq_ofNat_of_zero_le h.1
    rw [fill_count, if_pos (by omega), hC j (by omega)]
  · rw [List.count_eq_zero.2 (fun hm => h (fill_mem C K x hm)), List.count_eq_zero.2 (fun hm => h (hL x hm))]

theorem getD_mem (L : List Int) (t : Nat) (h : t < L.length) : L.getD t 0 ∈ L := by
  rw [List.getD_eq_getElem?_getD, List.getElem?_eq_getElem h]; exact List.getElem_mem h
theorem mem_getD (L : List Int) (x : Int) (h : x ∈ L) : ∃ t, t < L.length ∧ L.getD t 0 = x := by
  obtain ⟨t, ht, rfl⟩ := List.getElem_of_mem h
  exact ⟨t, ht, by rw [List.getD_eq_getElem?_getD, List.getElem?_eq_getElem ht]; rfl⟩
theorem drop_cons (L : List Int) (t : Nat) (h : t < L.length) : L.drop t = L.getD t 0 :: L.drop (t + 1) := by
  rw [List.drop_eq_getElem_cons h, List.getD_eq_getElem?_getD, List.getElem?_eq_getElem h]; rfl
theorem take_count (L : List Int) (t : Nat) (h : t < L.length) (x : Int) : (L.take (t + 1)).count x = (L.take t).count x + (if x = L.getD t 0 then 1 else 0) := by
  rw [List.take_succ_eq_append_getElem h, List.count_append]
  congr 1
  rw [List.getD_eq_getElem?_getD, List.getElem?_eq_getElem h, List.count_singleton]
  simp only [Option.getD_some, beq_iff_eq]
  by_cases e : L[t] = x
  · rw [if_pos e, if_pos e.symm]
  · rw [if_neg e, if_neg (fun h => e h.symm)]
/-- The stops of a round lose the round's own. -/
theorem perm_drop (L S : List Int) (t : Nat) (h : t < L.length) (hs : S.Pairwise (· ≤ ·)) (hp : S.Perm (L.drop t)) : L.getD t 0 ∈ S ∧ (drop1 S (L.getD t 0)).Perm (L.drop (t + 1)) := by
  rw [drop_cons L t h] at hp
  have hi : L.getD t 0 ∈ S := hp.mem_iff.2 (by simp)
  exact ⟨hi, List.Perm.cons_inv ((drop1_perm S _ hs hi).trans hp)⟩

theorem inc_lt (E : List Int) (K : Nat) (h : ∀ j, 1 ≤ j → j < K → E.getD (j - 1) 0 < E.getD j 0) : ∀ b a : Nat, a < b → b < K → E.getD a 0 < E.getD b 0 := by
  intro b
  induction b with
  | zero => intro a h1; omega
  | succ b ih =>
    intro a h1 h2
    have h3 := h (b + 1) (by omega) h2
    rw [Nat.add_sub_cancel] at h3
    by_cases e : a = b
    · subst e; exact h3
    · have := ih a (by omega) (by omega); omega
theorem inc_pos (E : List Int) (K : Nat) (h : ∀ j, 1 ≤ j → j < K → E.getD (j - 1) 0 < E.getD j 0) (h0 : 0 < E.getD 0 0) : ∀ j, j < K → 0 < E.getD j 0 := by
  intro j hj
  by_cases e : j = 0
  · subst e; exact h0
  · have := inc_lt E K h j 0 (by omega) hj; omega

/-- One block more of the count of those that fit. -/
theorem fit_in (E : List Int) (K j fit : Nat) (cap : Int) (h : ∀ j, 1 ≤ j → j < K → E.getD (j - 1) 0 < E.getD j 0) (hj : j < K) (hfj : fit ≤ j) (hf : ∀ t, t < j → (E.getD t 0 ≤ cap ↔ t < fit)) (hin : E.getD j 0 ≤ cap) : fit + 1 ≤ j + 1 ∧ ∀ t, t < j + 1 → (E.getD t 0 ≤ cap ↔ t < fit + 1) := by
  have hfe : fit = j := by
    by_cases e : fit = j
    · exact e
    · have h1 := inc_lt E K h j fit (by omega) hj
      have h2 := hf fit (by omega)
      have : fit < fit := h2.1 (by omega)
      omega
  subst hfe
  refine ⟨Nat.le_refl _, fun t ht => ⟨fun _ => ht, fun _ => ?_⟩⟩
  by_cases e : t = fit
  · subst e; exact hin
  · exact (hf t (by omega)).2 (by omega)
theorem fit_out (E : List Int) (j fit : Nat) (cap : Int) (hfj : fit ≤ j) (hf : ∀ t, t < j → (E.getD t 0 ≤ cap ↔ t < fit)) (hout : ¬ E.getD j 0 ≤ cap) : fit ≤ j + 1 ∧ ∀ t, t < j + 1 → (E.getD t 0 ≤ cap ↔ t < fit) := by
  refine ⟨by omega, fun t ht => ?_⟩
  by_cases e : t = j
  · subst e; exact ⟨fun h => (hout h).elim, fun h => by omega⟩
  · exact hf t (by omega)

theorem keys_nodup (I : List Int) (n : Nat) (hn : n ≤ I.length) (h : I.Nodup) : ((List.range n).map (fun j => I.getD j 0)).Nodup := by
  have : (List.range n).map (fun j => I.getD j 0) = I.take n := by
    apply List.ext_getElem
    · simp; omega
    · intro j h1 h2
      simp only [List.length_map, List.length_range] at h1
      simp [List.getElem?_eq_getElem (show j < I.length by omega)]
  rw [this]
  exact h.sublist (List.take_sublist _ _)
theorem keys_mem (I : List Int) (n j : Nat) (hn : n ≤ I.length) (hj : j < I.length) (h : I.Nodup) : I.getD j 0 ∈ (List.range n).map (fun j => I.getD j 0) ↔ j < n := by
  constructor
  · intro hm
    obtain ⟨t, ht, e⟩ := List.mem_map.1 hm
    have ht' : t < n := List.mem_range.1 ht
    rw [List.getD_eq_getElem?_getD, List.getD_eq_getElem?_getD, List.getElem?_eq_getElem (show t < I.length by omega), List.getElem?_eq_getElem hj] at e
    have : t = j := by
      simp only [Option.getD_some] at e
      exact (List.getElem_inj h).1 e
    omega
  · intro h1
    exact List.mem_map.2 ⟨j, List.mem_range.2 h1, rfl⟩
theorem set_getD (U : List Int) (i j : Nat) (u : Int) (hi : i < U.length) : (U.set i u).getD j 0 = if j = i then u else U.getD j 0 := by
  rw [List.getD_eq_getElem?_getD, List.getD_eq_getElem?_getD]
  by_cases e : j = i
  · subst e; rw [if_pos rfl, List.getElem?_set_self hi]; rfl
  · rw [if_neg e, List.getElem?_set_ne (fun h => e h.symm)]
end Go.Proofs.Qxb6609224a.Rl
