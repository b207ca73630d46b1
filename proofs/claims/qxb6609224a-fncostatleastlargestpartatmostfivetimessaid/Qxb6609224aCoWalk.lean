import Derived.Test.Qxb6609224aProg
import Derived.Test.Qxb6609224aCoLaw
import Derived.Laws.FloatArith
import Derived.WalkKit
import Derived.WalkLawsBesides
import Derived.Deep.QuietTactic
import Derived.BigQuiet
import Derived.Outline
namespace Go.Proofs.Qxb6609224a
open Go.RowKit

set_option maxHeartbeats 400000 in
theorem cost_any (cb : Nat) (e d p wt s1 s2 c : Nat) (w : World)
    (c10 : w.cell? ⟨cb, 10, none⟩ = some (.float .f64 e)) (c11 : w.cell? ⟨cb, 11, none⟩ = some (.float .f64 d)) (c14 : w.cell? ⟨cb, 14, none⟩ = some (.float .f64 p)) (c13 : w.cell? ⟨cb, 13, none⟩ = some (.float .f64 wt))
    (a1 : Ieee.double.add e d = some s1) (a2 : Ieee.double.add s1 p = some s2) (a3 : Ieee.double.add s2 wt = some c) :
    Calls Try.prog 47 #[.pointer (some ⟨cb, 0, none⟩)] w fun r w' => r = .returned (.float .f64 c) ∧ ∃ n, w' = w.drewN n := by
  have h1 : ∀ w, (binOp .add 53 (.float .f64 e) (.float .f64 d)).run Try.prog w = .ok (.float .f64 s1) w := fun w => run_float_arith w .add 53 .f64 e d s1 a1
  have h2 : ∀ w, (binOp .add 53 (.float .f64 s1) (.float .f64 p)).run Try.prog w = .ok (.float .f64 s2) w := fun w => run_float_arith w .add 53 .f64 s1 p s2 a2
  have h3 : ∀ w, (binOp .add 53 (.float .f64 s2) (.float .f64 wt)).run Try.prog w = .ok (.float .f64 c) w := fun w => run_float_arith w .add 53 .f64 s2 wt c a3
  clear a1 a2 a3
  go_enter Try.func47, Try.ntmps47
  go_wp2
  go_quiet (fail)
  go_wp2
  go_ret
  exact ⟨rfl, _, rfl⟩

set_option maxHeartbeats 400000 in
theorem zcost_any (cb : Nat) (e d p wt s1 s2 c : Nat) (w : World)
    (c10 : w.cell? ⟨cb, 10, none⟩ = some (.float .f64 e)) (c11 : w.cell? ⟨cb, 11, none⟩ = some (.float .f64 d)) (c14 : w.cell? ⟨cb, 14, none⟩ = some (.float .f64 p)) (c13 : w.cell? ⟨cb, 13, none⟩ = some (.float .f64 wt))
    (a1 : Ieee.double.add e d = some s1) (a2 : Ieee.double.add s1 p = some s2) (a3 : Ieee.double.add s2 wt = some c) :
    Calls Try.prog 35 #[.pointer (some ⟨cb, 0, none⟩)] w fun r w' => r = .returned (.float .f64 c) ∧ ∃ n, w' = w.drewN n := by
  have H := cost_any cb e d p wt s1 s2 c w c10 c11 c14 c13 a1 a2 a3
  clear c10 c11 c14 c13 a1 a2 a3
  go_enter Try.func35, Try.ntmps35
  go_wp2_with fail
  refine H.mono ?_
  rintro r w1 ⟨rfl, n, rfl⟩
  go_wp2
  go_ret
  exact ⟨rfl, _, rfl⟩

/-- 'x >= 0', 'x > y' as the model reckons them. -/
def ge0 (x : Nat) : Bool := FloatKind.f64.format.order x 0 == some .gt || FloatKind.f64.format.order x 0 == some .eq

set_option maxHeartbeats 400000 in
theorem main_no (e d p wt : Nat) (w : World) (h : ge0 e = false ∨ ge0 d = false ∨ ge0 p = false ∨ ge0 wt = false) :
    Calls Try.prog 7 #[.float .f64 e, .float .f64 d, .float .f64 p, .float .f64 wt] w fun r w' => r = .returned (.bool true) ∧ Below w.heap.size w w' := by
  cases h1 : ge0 e
  · unfold ge0 at h1
    clear h
    go_enter Try.func7, Try.ntmps7
    go_wp2
    go_ret
    exact ⟨rfl, Below.refl _ _⟩
  cases h2 : ge0 d
  · unfold ge0 at h1 h2
    clear h
    go_enter Try.func7, Try.ntmps7
    go_wp2
    go_ret
    exact ⟨rfl, Below.refl _ _⟩
  cases h3 : ge0 p
  · unfold ge0 at h1 h2 h3
    clear h
    go_enter Try.func7, Try.ntmps7
    go_wp2
    go_ret
    exact ⟨rfl, Below.refl _ _⟩
  have h4 : ge0 wt = false := by rcases h with h | h | h | h <;> simp_all
  unfold ge0 at h1 h2 h3 h4
  clear h
  go_enter Try.func7, Try.ntmps7
  go_wp2
  go_ret
  exact ⟨rfl, Below.refl _ _⟩

/-- 'if y > x { x = y }' -/
def Step (y x m : Nat) : Prop := ((FloatKind.f64.format.order y x == some .gt) = true ∧ m = y) ∨ ((FloatKind.f64.format.order y x == some .gt) = false ∧ m = x)

set_option maxHeartbeats 4000000 in
theorem main_yes (e d p wt m1 m2 m s1 s2 c t : Nat) (w : World) (h1 : ge0 e = true) (h2 : ge0 d = true) (h3 : ge0 p = true) (h4 : ge0 wt = true)
    (t1 : Step d e m1) (t2 : Step p m1 m2) (t3 : Step wt m2 m)
    (a1 : Ieee.double.add e d = some s1) (a2 : Ieee.double.add s1 p = some s2) (a3 : Ieee.double.add s2 wt = some c) (a4 : Ieee.double.mul 4617315517961601024 m = some t)
    (l1 : (FloatKind.f64.format.order m c == some .lt || FloatKind.f64.format.order m c == some .eq) = true) (l2 : (FloatKind.f64.format.order c t == some .lt || FloatKind.f64.format.order c t == some .eq) = true)
    (l3 : ((FloatKind.f64.format.order c 0 == some .eq) == (FloatKind.f64.format.order m 0 == some .eq)) = true) :
    Calls Try.prog 7 #[.float .f64 e, .float .f64 d, .float .f64 p, .float .f64 wt] w fun r w' => r = .returned (.bool true) ∧ Below w.heap.size w w' := by
  have HM : ∀ w, (binOp .mul 53 (.float .f64 4617315517961601024) (.float .f64 m)).run Try.prog w = .ok (.float .f64 t) w := fun w => run_float_arith w .mul 53 .f64 _ m t a4
  have H : Hid (∀ (cb : Nat) (w : World), w.cell? ⟨cb, 10, none⟩ = some (.float .f64 e) → w.cell? ⟨cb, 11, none⟩ = some (.float .f64 d) → w.cell? ⟨cb, 14, none⟩ = some (.float .f64 p) → w.cell? ⟨cb, 13, none⟩ = some (.float .f64 wt) →
    Calls Try.prog 35 #[.pointer (some ⟨cb, 0, none⟩)] w fun r w' => r = .returned (.float .f64 c) ∧ ∃ n, w' = w.drewN n) := fun cb w q1 q2 q3 q4 => zcost_any cb e d p wt s1 s2 c w q1 q2 q3 q4 a1 a2 a3
  clear a1 a2 a3 a4
  unfold ge0 at h1 h2 h3 h4
  rcases t1 with ⟨b1, rfl⟩ | ⟨b1, rfl⟩ <;> rcases t2 with ⟨b2, rfl⟩ | ⟨b2, rfl⟩ <;> rcases t3 with ⟨b3, rfl⟩ | ⟨b3, rfl⟩
  all_goals
    go_enter Try.func7, Try.ntmps7
    go_wp2_with fail
    refine (H.out w.heap.size _ (by simp) (by simp) (by simp) (by simp)).mono ?_
    rintro r w1 ⟨rfl, n, rfl⟩
    go_wp2
    go_ret
    exact ⟨rfl, below_drewN ((Below.refl _ _).alloc (Nat.le_refl _) _) n⟩

theorem step_ex (y x : Nat) : ∃ m, Step y x m := by
  cases h : (FloatKind.f64.format.order y x == some .gt)
  · exact ⟨x, Or.inr ⟨h, rfl⟩⟩
  · exact ⟨y, Or.inl ⟨h, rfl⟩⟩

open Co in
/-- The greater of two, as the data say. -/
theorem step_has {y x m : Nat} {oy ox : Option Nat} (hy : Has Ieee.double y oy) (hx : Has Ieee.double x ox) (h : Step y x m) :
    ∃ om, Has Ieee.double m om ∧ le oy om ∧ le ox om ∧ (om = oy ∨ om = ox) := by
  have ho : FloatKind.f64.format.order y x = some (cmpE oy ox) := order_has Ieee.double hy hx
  have flip : ∀ a b : Option Nat, cmpE a b = .gt → le b a := by
    intro a b hg
    cases a with
    | none => exact le_none _
    | some a =>
      cases b with
      | none => simp [cmpE] at hg
      | some b =>
        rw [le_some]
        have : ¬ a ≤ b := fun hle => by
          have := le_some.2 hle
          rcases this with h | h <;> rw [hg] at h <;> cases h
        omega
  rcases h with ⟨hb, rfl⟩ | ⟨hb, rfl⟩
  · rw [ho] at hb
    have hg : cmpE oy ox = .gt := by simpa using hb
    exact ⟨oy, hy, le_refl' _, flip _ _ hg, Or.inl rfl⟩
  · rw [ho] at hb
    have hg : ¬ cmpE oy ox = .gt := by simpa using hb
    refine ⟨ox, hx, ?_, le_refl' _, Or.inr rfl⟩
    unfold le
    cases hc : cmpE oy ox with
    | lt => exact Or.inl rfl
    | eq => exact Or.inr rfl
    | gt => exact absurd hc hg

open Co in
theorem has_rep {x : Nat} {o : Option Nat} (h : Has Ieee.double x o) : Rep Ieee.double o := by
  intro a ha
  subst ha
  obtain ⟨_, _, _, _, _, _, hr⟩ := h
  exact hr

open Co in
theorem le_bool {x y : Nat} {a b : Option Nat} (hx : Has Ieee.double x a) (hy : Has Ieee.double y b) (h : le a b) : (FloatKind.f64.format.order x y == some .lt || FloatKind.f64.format.order x y == some .eq) = true := by
  have ho : FloatKind.f64.format.order x y = some (cmpE a b) := order_has Ieee.double hx hy
  rw [ho]
  rcases h with h | h <;> rw [h] <;> rfl

open Co in
theorem main_all (e d p wt : Nat) (w : World) :
    Calls Try.prog 7 #[.float .f64 e, .float .f64 d, .float .f64 p, .float .f64 wt] w fun r w' => r = .returned (.bool true) ∧ Below w.heap.size w w' := by
  by_cases h : ge0 e = false ∨ ge0 d = false ∨ ge0 p = false ∨ ge0 wt = false
  · exact main_no e d p wt w h
  have h1 : ge0 e = true := by cases hh : ge0 e <;> simp_all
  have h2 : ge0 d = true := by cases hh : ge0 d <;> simp_all
  have h3 : ge0 p = true := by cases hh : ge0 p <;> simp_all
  have h4 : ge0 wt = true := by cases hh : ge0 wt <;> simp_all
  have he0 : 0 < Ieee.double.exponentBits := by decide
  have get : ∀ x, ge0 x = true → ∃ a, Has Ieee.double x a := fun x hx => has_of_ge Ieee.double he0 x (by
    have hx : (Ieee.double.order x 0 == some .gt || Ieee.double.order x 0 == some .eq) = true := hx
    simpa using hx)
  obtain ⟨oe, he⟩ := get e h1
  obtain ⟨od, hd⟩ := get d h2
  obtain ⟨op, hp⟩ := get p h3
  obtain ⟨ow, hw⟩ := get wt h4
  obtain ⟨m1, t1⟩ := step_ex d e
  obtain ⟨m2, t2⟩ := step_ex p m1
  obtain ⟨m, t3⟩ := step_ex wt m2
  obtain ⟨o1, hm1, q1, q2, q3⟩ := step_has hd he t1
  obtain ⟨o2, hm2, r1, r2, r3⟩ := step_has hp hm1 t2
  obtain ⟨om, hm, u1, u2, u3⟩ := step_has hw hm2 t3
  obtain ⟨s1, a1, hs1⟩ := add_has Ieee.double he0 he hd
  obtain ⟨s2, a2, hs2⟩ := add_has Ieee.double he0 hs1 hp
  obtain ⟨c, a3, hc⟩ := add_has Ieee.double he0 hs2 hw
  obtain ⟨t, a4, ht⟩ := mul_has Ieee.double he0 _ _ five_read hm
  have L := law Ieee.double he0 (has_rep he) (has_rep hd) (has_rep hp) (has_rep hw) (le_trans' q2 (le_trans' r2 u2)) (le_trans' q1 (le_trans' r2 u2)) (le_trans' r1 u2) u1 (by
    rcases u3 with rfl | rfl
    · exact Or.inr (Or.inr (Or.inr rfl))
    · rcases r3 with rfl | rfl
      · exact Or.inr (Or.inr (Or.inl rfl))
      · rcases q3 with rfl | rfl
        · exact Or.inr (Or.inl rfl)
        · exact Or.inl rfl)
  have hz : Has Ieee.double 0 (some 0) := read_zero Ieee.double he0 false
  refine main_yes e d p wt m1 m2 m s1 s2 c t w h1 h2 h3 h4 t1 t2 t3 a1 a2 a3 a4 (le_bool hm hc L.1) (le_bool hc ht L.2.1) ?_
  have o1 : FloatKind.f64.format.order c 0 = some _ := order_has Ieee.double hc hz
  have o2 : FloatKind.f64.format.order m 0 = some _ := order_has Ieee.double hm hz
  rw [o1, o2]
  have := L.2.2
  simp only [beq_iff_eq]
  exact this
end Go.Proofs.Qxb6609224a
