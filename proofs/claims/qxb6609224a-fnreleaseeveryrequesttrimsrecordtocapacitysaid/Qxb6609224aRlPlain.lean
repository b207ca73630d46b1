import Derived.Test.Qxb6609224aRlRelease
namespace Go.Proofs.Qxb6609224a.Rl
open Go.RowKit

/-- The first n blocks, as the three lists tell them. -/
def mk (I E U : List Int) (n : Nat) : List (Int × Int × Int) := (List.range n).map fun j => (I.getD j 0, E.getD j 0, U.getD j 0)
theorem mk_length (I E U : List Int) (n : Nat) : (mk I E U n).length = n := by simp [mk]
theorem mk_get (I E U : List Int) (n j : Nat) (h : j < n) : (mk I E U n)[j]'(by rw [mk_length]; exact h) = (I.getD j 0, E.getD j 0, U.getD j 0) := by simp [mk]
theorem mk_succ (I E U : List Int) (n : Nat) : mk I E U (n + 1) = mk I E U n ++ [(I.getD n 0, E.getD n 0, U.getD n 0)] := by simp [mk, List.range_succ]
theorem mk_dropLast (I E U : List Int) (n : Nat) : (mk I E U (n + 1)).dropLast = mk I E U n := by rw [mk_succ]; simp
theorem mk_lastEnd (I E U : List Int) (n : Nat) : lastEnd (mk I E U (n + 1)) = E.getD n 0 := by rw [mk_succ]; simp [lastEnd]
theorem mk_stamp (I E U : List Int) (n i : Nat) (u : Int) (hi : i < U.length) : stamp (mk I E U n) i u = mk I E (U.set i u) n := by
  apply List.ext_getElem?
  intro j
  simp only [stamp, mk, List.getElem?_modify, List.getElem?_map]
  by_cases hj : j < n
  · simp only [List.getElem?_range hj, Option.map_some]
    by_cases e : i = j
    · subst e
      simp [List.getD, hi]
    · simp [e, List.getD, List.getElem?_set_ne e]
  · have : (List.range n)[j]? = none := by simp; omega
    rw [this]; simp

/-- The record between two releases: the first n blocks stay. -/
def mkD (cap en : Int) (I E U : List Int) (n : Nat) (S : List Int) : Dat :=
  { cap := cap, tokens := lastEnd (mk I E U n), ended := en, keys := (List.range n).map (fun j => I.getD j 0), blocks := mk I E U n, stops := S, leaf := decide (top S < (n : Int) - 1), spare := if n = 0 then 1 else 0 }

theorem top_ge (S : List Int) (h0 : ∀ x ∈ S, 0 ≤ x) : -1 ≤ top S := by
  unfold top
  rw [List.getLastD_eq_getLast?]
  cases h : S.getLast? with
  | none => simp
  | some y => have := h0 y (List.mem_of_getLast? h); simp; omega

theorem mkD_step (cap en : Int) (I E U : List Int) (n : Nat) (S : List Int) (h0 : ∀ x ∈ S, 0 ≤ x) : step (mkD cap en I E U (n + 1) S) = mkD cap en I E U n S := by
  have ht := top_ge S h0
  have hk : ((List.range (n + 1)).map (fun j => I.getD j 0)).dropLast = (List.range n).map (fun j => I.getD j 0) := by rw [List.range_succ]; simp
  unfold step
  have hl : (mkD cap en I E U (n + 1) S).blocks.length = n + 1 := mk_length _ _ _ _
  by_cases hz : n = 0
  · subst hz
    rw [if_pos (by rw [hl])]
    unfold cutBack mkD
    simp only [mk_dropLast, hk]
    simp only [Dat.mk.injEq, true_and]
    refine ⟨?_, ?_⟩
    · rw [eq_comm, decide_eq_false_iff_not]; simp; omega
    · simp
  · rw [if_neg (by rw [hl]; omega)]
    unfold cutBack free mkD
    simp only [mk_dropLast, hk, mk_length]
    simp [hz]

theorem mkD_goes (cap en : Int) (I E U : List Int) (n fit : Nat) (S : List Int) (h0 : ∀ x ∈ S, 0 ≤ x) (hfit : ∀ j, j < n → (E.getD j 0 ≤ cap ↔ j < fit)) : goes (mkD cap en I E U n S) = decide (max (fit : Int) (top S + 1) < (n : Int)) := by
  have ht := top_ge S h0
  unfold goes
  show (decide (cap < lastEnd (mk I E U n)) && decide (top S < (n : Int) - 1)) = _
  cases n with
  | zero =>
    rw [decide_eq_false (show ¬ top S < ((0 : Nat) : Int) - 1 by omega), Bool.and_false, eq_comm, decide_eq_false_iff_not]
    omega
  | succ n =>
    rw [mk_lastEnd, Bool.eq_iff_iff]
    simp only [Bool.and_eq_true, decide_eq_true_eq]
    have := hfit n (by omega)
    constructor
    · rintro ⟨h1, h2⟩
      have h3 : ¬ n < fit := fun h => by have := this.2 h; omega
      omega
    · intro h
      have h3 : ¬ n < fit := by omega
      have h4 : ¬ E.getD n 0 ≤ cap := fun h => h3 (this.1 h)
      omega

theorem mkD_ev (cap en : Int) (I E U : List Int) (fit : Nat) (S : List Int) (h0 : ∀ x ∈ S, 0 ≤ x) : ∀ (f n m : Nat), (∀ j, j < n → (E.getD j 0 ≤ cap ↔ j < fit)) → (m : Int) = max (fit : Int) (top S + 1) → m ≤ n → n ≤ f → ev f (mkD cap en I E U n S) = mkD cap en I E U m S := by
  intro f
  induction f with
  | zero => intro n m _ hm h1 h2; rw [show m = n by omega]; rfl
  | succ f ih =>
    intro n m hfit hm h1 h2
    have hg := mkD_goes cap en I E U n fit S h0 hfit
    by_cases e : m = n
    · subst e
      rw [decide_eq_false (by omega)] at hg
      rw [ev_stop _ _ hg]
    · obtain ⟨n', rfl⟩ : ∃ n', n = n' + 1 := ⟨n - 1, by omega⟩
      rw [decide_eq_true (by omega)] at hg
      rw [ev_go _ _ hg, mkD_step _ _ _ _ _ _ _ h0]
      exact ih n' m (fun j hj => hfit j (by omega)) hm (by omega) (by omega)

theorem mk_lastEnd_any (I E U U' : List Int) (n : Nat) : lastEnd (mk I E U n) = lastEnd (mk I E U' n) := by
  cases n with
  | zero => rfl
  | succ n => rw [mk_lastEnd, mk_lastEnd]

theorem mkD_rel2 (cap en : Int) (I E U : List Int) (n i : Nat) (S : List Int) (u : Int) (hi : i < U.length) : rel2 (mkD cap en I E U n S) i u = mkD cap u I E (U.set i u) n (drop1 S i) := by
  unfold rel2 rel1 free mkD
  simp only [mk_stamp I E U n i u hi, mk_length, Dat.mk.injEq, true_and, and_true]
  exact mk_lastEnd_any _ _ _ _ _

theorem mkD_rel (cap en : Int) (I E U : List Int) (n i m fit : Nat) (S : List Int) (u : Int) (hi : i < U.length) (h0 : ∀ x ∈ S, 0 ≤ x) (hfit : ∀ j, j < n → (E.getD j 0 ≤ cap ↔ j < fit)) (hm : (m : Int) = max (fit : Int) (top (drop1 S i) + 1)) (hmn : m ≤ n) :
    rel (mkD cap en I E U n S) i u = mkD cap u I E (U.set i u) m (drop1 S i) := by
  unfold rel
  rw [mkD_rel2 _ _ _ _ _ _ _ _ _ hi, show (mkD cap en I E U n S).blocks.length = n from mk_length _ _ _ _]
  exact mkD_ev cap u I E (U.set i u) fit (drop1 S i) (fun x hx => h0 x ((List.eraseIdx_sublist _ _).subset hx)) n n m hfit hm hmn (Nat.le_refl _)

theorem mkD_held (cap en : Int) (I E U : List Int) (n i : Nat) (S : List Int) (u : Int) (hi : i < U.length) (hin : i < n) (hS : drop1 S i ≠ [] → 0 ≤ top (drop1 S i)) :
    heldOf (rel1 (mkD cap en I E U n S) i u) i = if 0 ≤ top (drop1 S i) then E.getD (min (i : Int) (top (drop1 S i))).toNat 0 else 0 := by
  unfold heldOf
  show (if (drop1 S i).length = 0 then 0 else (((stamp (mk I E U n) i u)[(min (i : Int) (top (drop1 S i))).toNat]?).map (·.2.1)).getD 0) = _
  by_cases hz : (drop1 S i).length = 0
  · rw [if_pos hz, if_neg]
    rw [List.eq_nil_of_length_eq_zero hz]
    simp [top]
  · have h1 := hS (fun e => hz (by rw [e]; rfl))
    rw [if_neg hz, if_pos h1, mk_stamp _ _ _ _ _ _ hi, List.getElem?_eq_getElem (by rw [mk_length]; omega), mk_get _ _ _ _ _ (by omega)]
    rfl

theorem mkD_ok (cap en : Int) (I E U : List Int) (n : Nat) (S : List Int) (hnd : ((List.range n).map (fun j => I.getD j 0)).Nodup) (hn : n ≤ 65536) (hE : ∀ j, j < n → 0 ≤ E.getD j 0 ∧ E.getD j 0 ≤ 9223372036854775807) (hS : S.length ≤ 1048576) (h0 : ∀ x ∈ S, 0 ≤ x) : Ok (mkD cap en I E U n S) := by
  have ht := top_ge S h0
  refine ⟨by simp [mkD, mk], hnd, by show (mk I E U n).length ≤ _; rw [mk_length]; omega, ?_, rfl, ?_, hS, ?_⟩
  · intro b hb
    obtain ⟨j, hj, rfl⟩ := List.mem_map.1 (show b ∈ (List.range n).map _ from hb)
    exact hE j (by simpa using hj)
  · intro e
    have e' : top S < (n : Int) - 1 := of_decide_eq_true e
    refine ⟨by show 0 < (mk I E U n).length; rw [mk_length]; omega, ?_⟩
    unfold free
    show decide (top S < ((mk I E U n).length : Int) - 1) = true
    rw [mk_length]
    exact e
  · show (if n = 0 then 1 else 0) + (mk I E U n).length ≤ _
    rw [mk_length]
    split <;> omega

/-- The last of sorted stops is the greatest. -/
theorem top_is (S : List Int) (hs : S.Pairwise (· ≤ ·)) (h0 : ∀ x ∈ S, 0 ≤ x) (h : Int) (hm1 : -1 ≤ h) (hin : 0 ≤ h → h ∈ S) (hgt : ∀ x ∈ S, x ≤ h) : top S = h := by
  by_cases hz : S = []
  · subst hz
    have : ¬ 0 ≤ h := fun hh => by have := hin hh; simp at this
    simp [top]; omega
  · have hlast : top S = S.getLast hz := by unfold top; rw [List.getLastD_eq_getLast?, List.getLast?_eq_some_getLast hz]; rfl
    have hmem : S.getLast hz ∈ S := List.getLast_mem hz
    have h1 := hgt _ hmem
    have h2 := h0 _ hmem
    have h3 := hin (by omega)
    have hsplit := (List.dropLast_concat_getLast hz).symm
    rw [hlast]
    rw [hsplit] at h3 hs
    rw [List.pairwise_append] at hs
    rcases List.mem_append.1 h3 with h4 | h4
    · have := hs.2.2 _ h4 (S.getLast hz) (by simp)
      omega
    · simp at h4; omega
end Go.Proofs.Qxb6609224a.Rl
