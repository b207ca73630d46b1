import Derived.Test.Qxb6609224aCoFloat
namespace Go.Proofs.Qxb6609224a.Co
open Ieee

variable (f : Format)

def Rep (o : Option Nat) : Prop := ∀ a, o = some a → ∃ r, a = v f.fractionBits r
def le (a b : Option Nat) : Prop := cmpE a b = .lt ∨ cmpE a b = .eq

theorem compare_le (a b : Nat) : (compare a b = .lt ∨ compare a b = .eq) ↔ a ≤ b := by
  show (compareOfLessAndEq a b = .lt ∨ compareOfLessAndEq a b = .eq) ↔ a ≤ b
  unfold compareOfLessAndEq
  by_cases h1 : a < b
  · simp [h1]; omega
  · by_cases h2 : a = b
    · subst h2; simp
    · simp [h1, h2]; omega

theorem le_some {a b : Nat} : le (some a) (some b) ↔ a ≤ b := compare_le a b
theorem le_none (a : Option Nat) : le a none := by
  cases a with
  | none => exact Or.inr rfl
  | some a => exact Or.inl rfl
theorem none_le {a : Option Nat} (h : le none a) : a = none := by
  cases a with
  | none => rfl
  | some a => rcases h with h | h <;> simp [cmpE] at h

theorem le_refl' (a : Option Nat) : le a a := by
  cases a with
  | none => exact Or.inr rfl
  | some a => exact le_some.2 (Nat.le_refl _)
theorem le_trans' {a b c : Option Nat} (h : le a b) (k : le b c) : le a c := by
  cases c with
  | none => exact le_none _
  | some c =>
    cases b with
    | none => have := none_le k; simp at this
    | some b =>
      cases a with
      | none => have := none_le h; simp at this
      | some a => rw [le_some] at *; omega

/-- A sum is no less than its parts. -/
theorem add_ge {a b : Option Nat} (ha : Rep f a) (hb : Rep f b) : le a (addE f a b) ∧ le b (addE f a b) := by
  cases a with
  | none => exact ⟨le_none _, by cases b <;> exact le_none _⟩
  | some a =>
    cases b with
    | none => exact ⟨le_none _, le_none _⟩
    | some b =>
      obtain ⟨r, hr⟩ := ha a rfl
      obtain ⟨s, hs⟩ := hb b rfl
      show le (some a) (fl f (a + b)) ∧ le (some b) (fl f (a + b))
      unfold fl
      split
      · rw [le_some, le_some]
        have h1 := R_mono f.fractionBits (show a ≤ a + b by omega)
        have h2 := R_mono f.fractionBits (show b ≤ a + b by omega)
        rw [hr, R_v, ← hr] at h1
        rw [hs, R_v, ← hs] at h2
        have g1 := v_mono f.fractionBits h1
        have g2 := v_mono f.fractionBits h2
        rw [← hr] at g1
        rw [← hs] at g2
        exact ⟨g1, g2⟩
      · exact ⟨le_none _, le_none _⟩

theorem rep_fl (V : Nat) : Rep f (fl f V) := fun a h => by
  unfold fl at h
  split at h
  · simp at h; exact ⟨_, h.symm⟩
  · simp at h
theorem rep_add (a b : Option Nat) : Rep f (addE f a b) := by
  cases a with
  | none => intro x h; cases b <;> simp [addE] at h
  | some a =>
    cases b with
    | none => intro x h; simp [addE] at h
    | some b => exact rep_fl f _

/-- Below the top, what is rounded: 'le' goes over rounding. -/
theorem fl_le {V : Nat} {t T : Nat} (hT : R f.fractionBits T < f.infRung) (h : V ≤ T) (ht : v f.fractionBits (R f.fractionBits T) = t) : ∃ c, fl f V = some c ∧ c ≤ t := by
  have h1 := R_mono f.fractionBits h
  refine ⟨v f.fractionBits (R f.fractionBits V), ?_, ?_⟩
  · unfold fl; rw [if_pos (by omega)]
  · rw [← ht]; exact v_mono _ h1

theorem law_five {e d p w m : Nat} (hm : ∃ r, m = v f.fractionBits r) (he : e ≤ m) (hd : d ≤ m) (hp : p ≤ m) (hw : w ≤ m) :
    le (addE f (addE f (addE f (some e) (some d)) (some p)) (some w)) (fl f (5 * m)) := by
  by_cases h5 : R f.fractionBits (5 * m) < f.infRung
  · have e2 : v f.fractionBits (R f.fractionBits (2 * m)) = 2 * m := by
      obtain ⟨r, rfl⟩ := hm
      obtain ⟨s, hs⟩ := v_two f.fractionBits r
      rw [← hs, R_v]
    have e4 : v f.fractionBits (R f.fractionBits (4 * m)) = 4 * m := by
      obtain ⟨r, rfl⟩ := hm
      obtain ⟨s, hs⟩ := v_two f.fractionBits r
      obtain ⟨u, hu⟩ := v_two f.fractionBits s
      rw [show 4 * v f.fractionBits r = 2 * (2 * v f.fractionBits r) by omega, ← hs, ← hu, R_v]
    have m2 := R_mono f.fractionBits (show 2 * m ≤ 5 * m by omega)
    have m4 := R_mono f.fractionBits (show 4 * m ≤ 5 * m by omega)
    obtain ⟨s1, h1, l1⟩ := fl_le f (V := e + d) (T := 2 * m) (by omega) (by omega) e2
    obtain ⟨s2, h2, l2⟩ := fl_le f (V := s1 + p) (T := 4 * m) (by omega) (by omega) e4
    obtain ⟨s3, h3, l3⟩ := fl_le f (V := s2 + w) (T := 5 * m) h5 (by omega) rfl
    have : addE f (addE f (addE f (some e) (some d)) (some p)) (some w) = some s3 := by
      simp only [addE, h1, h2, h3]
    rw [this]
    unfold fl
    rw [if_pos h5, le_some]
    exact l3
  · have : fl f (5 * m) = none := by unfold fl; rw [if_neg h5]
    rw [this]; exact le_none _

theorem law (he0 : 0 < f.exponentBits) {e d p w m : Option Nat} (re : Rep f e) (rd : Rep f d) (rp : Rep f p) (rw' : Rep f w) (he : le e m) (hd : le d m) (hp : le p m) (hw : le w m) (hm : m = e ∨ m = d ∨ m = p ∨ m = w) :
    le m (addE f (addE f (addE f e d) p) w) ∧ le (addE f (addE f (addE f e d) p) w) (m.bind fun a => fl f (5 * a)) ∧
      (cmpE (addE f (addE f (addE f e d) p) w) (some 0) == .eq) = (cmpE m (some 0) == .eq) := by
  have a1 := add_ge f re rd
  have a2 := add_ge f (rep_add f e d) rp
  have a3 := add_ge f (rep_add f (addE f e d) p) rw'
  have ge : le m (addE f (addE f (addE f e d) p) w) := by
    rcases hm with rfl | rfl | rfl | rfl
    · exact le_trans' (le_trans' a1.1 a2.1) a3.1
    · exact le_trans' (le_trans' a1.2 a2.1) a3.1
    · exact le_trans' a2.2 a3.1
    · exact a3.2
  cases m with
  | none =>
    have hc := none_le ge
    refine ⟨ge, le_none _, ?_⟩
    rw [hc]
  | some m =>
    have get : ∀ {x : Option Nat}, le x (some m) → ∃ a, x = some a ∧ a ≤ m := by
      intro x h
      cases x with
      | none => have := none_le h; simp at this
      | some a => exact ⟨a, rfl, le_some.1 h⟩
    obtain ⟨e, rfl, le'⟩ := get he
    obtain ⟨d, rfl, ld⟩ := get hd
    obtain ⟨p, rfl, lp⟩ := get hp
    obtain ⟨w, rfl, lw⟩ := get hw
    have rm : ∃ r, m = v f.fractionBits r := by
      rcases hm with h | h | h | h
      · exact re _ h.symm
      · exact rd _ h.symm
      · exact rp _ h.symm
      · exact rw' _ h.symm
    refine ⟨ge, law_five f rm le' ld lp lw, ?_⟩
    by_cases h0 : m = 0
    · subst h0
      obtain rfl : e = 0 := by omega
      obtain rfl : d = 0 := by omega
      obtain rfl : p = 0 := by omega
      obtain rfl : w = 0 := by omega
      have z := fl_zero f he0
      simp [addE, z]
    · have n1 : (cmpE (some m) (some 0) == Ordering.eq) = false := by
        show (compareOfLessAndEq m 0 == Ordering.eq) = false
        unfold compareOfLessAndEq
        rw [if_neg (by omega), if_neg h0]; rfl
      rw [n1]
      cases hc : addE f (addE f (addE f (some e) (some d)) (some p)) (some w) with
      | none => rfl
      | some c =>
        rw [hc] at ge
        have := le_some.1 ge
        show (compareOfLessAndEq c 0 == Ordering.eq) = false
        unfold compareOfLessAndEq
        rw [if_neg (by omega), if_neg (by omega)]; rfl

end Go.Proofs.Qxb6609224a.Co
