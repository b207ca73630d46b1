import Derived.Test.Qxb6609224aCoRound
import Derived.Laws.FloatBits
namespace Go.Proofs.Qxb6609224a.Co
open Ieee

theorem shl (n k : Nat) : n <<< k = n * 2 ^ k := Nat.shiftLeft_eq n k

theorem cut_eq (neg : Bool) (n d : Nat) : Toward.even.cut neg n d = rne n d := by
  have bool : ∀ (a b c : Prop) [Decidable a] [Decidable b] [Decidable c], (decide a || (decide b && decide c)).toNat = if a ∨ (b ∧ c) then 1 else 0 := by
    intro a b c _ _ _
    by_cases a <;> by_cases b <;> by_cases c <;> simp_all
  unfold Toward.cut
  simp only [shl, Nat.one_mul]
  by_cases hd : d ≤ n.log2 + 2
  · rw [Nat.min_eq_left hd]
    unfold rne
    congr 1
    rw [← bool]
    simp [BEq.beq]
  · rw [Nat.min_eq_right (by omega)]
    have hi := @Nat.lt_log2_self n
    have g1 : 2 * n < 2 ^ (n.log2 + 2) := by rw [show n.log2 + 2 = (n.log2 + 1) + 1 by omega, Nat.pow_succ]; omega
    have g2 : 2 ^ (n.log2 + 2) ≤ 2 ^ d := Nat.pow_le_pow_right (by omega) (by omega)
    unfold rne
    rw [Nat.div_eq_of_lt (show n < 2 ^ (n.log2 + 2) by omega), Nat.mod_eq_of_lt (show n < 2 ^ (n.log2 + 2) by omega),
      Nat.div_eq_of_lt (show n < 2 ^ d by omega), Nat.mod_eq_of_lt (show n < 2 ^ d by omega), if_neg (by omega)]
    simp; omega

variable (f : Format)

/-- 'nearest' by the value in units of the least place. -/
theorem nearest_up (neg : Bool) (m k : Nat) (h : m ≠ 0) : f.nearest neg m (f.leastPlace + k) = f.word neg (min (R f.fractionBits (m * 2 ^ k)) f.infRung) := by
  unfold Format.nearest
  rw [if_neg h]
  simp only [cut_eq]
  unfold R
  rw [log2_mul _ _ h]
  by_cases hc : f.fractionBits ≤ m.log2 + k
  · have e1 : max (f.leastPlace + (k : Int) + (m.log2 : Int) - (f.fractionBits : Int)) f.leastPlace = f.leastPlace + ((m.log2 + k - f.fractionBits : Nat) : Int) := by omega
    rw [e1]
    have e2 : (f.leastPlace + ((m.log2 + k - f.fractionBits : Nat) : Int) - f.leastPlace).toNat = m.log2 + k - f.fractionBits := by omega
    rw [e2]
    congr 3
    rw [shl]
    generalize m.log2 + k - f.fractionBits = e at *
    by_cases hk : k ≤ e
    · have e3 : (f.leastPlace + (k : Int) - (f.leastPlace + (e : Int))).toNat = 0 := by omega
      have e4 : (f.leastPlace + (e : Int) - (f.leastPlace + (k : Int))).toNat = e - k := by omega
      rw [e3, e4]
      have := rne_scale m (e - k) k
      rw [show e - k + k = e by omega] at this
      rw [this]; simp
    · have e3 : (f.leastPlace + (k : Int) - (f.leastPlace + (e : Int))).toNat = k - e := by omega
      have e4 : (f.leastPlace + (e : Int) - (f.leastPlace + (k : Int))).toNat = 0 := by omega
      rw [e3, e4]
      have a := rne_exact (m * 2 ^ (k - e)) e
      have b := rne_exact (m * 2 ^ (k - e)) 0
      rw [Nat.mul_assoc, ← Nat.pow_add, show k - e + e = k by omega] at a
      simp at b
      rw [a, b]
  · have e1 : max (f.leastPlace + (k : Int) + (m.log2 : Int) - (f.fractionBits : Int)) f.leastPlace = f.leastPlace := by omega
    rw [e1]
    have e3 : (f.leastPlace + (k : Int) - f.leastPlace).toNat = k := by omega
    have e4 : (f.leastPlace - (f.leastPlace + (k : Int))).toNat = 0 := by omega
    rw [e3, e4, show m.log2 + k - f.fractionBits = 0 by omega, shl]
    simp

/-- .. of a number whose place lies below the least one, and which is a multiple of a unit. -/
theorem nearest_down (neg : Bool) (V k : Nat) (h : V ≠ 0) : f.nearest neg (V * 2 ^ k) (f.leastPlace - k) = f.word neg (min (R f.fractionBits V) f.infRung) := by
  have hk : 0 < 2 ^ k := Nat.two_pow_pos k
  have h' : V * 2 ^ k ≠ 0 := by
    intro e; rcases Nat.mul_eq_zero.1 e with e | e <;> omega
  unfold Format.nearest
  rw [if_neg h', log2_mul _ _ h]
  simp only [cut_eq]
  unfold R
  have e1 : max (f.leastPlace - (k : Int) + ((V.log2 + k : Nat) : Int) - (f.fractionBits : Int)) f.leastPlace = f.leastPlace + ((V.log2 - f.fractionBits : Nat) : Int) := by omega
  rw [e1]
  have e2 : (f.leastPlace + ((V.log2 - f.fractionBits : Nat) : Int) - f.leastPlace).toNat = V.log2 - f.fractionBits := by omega
  rw [e2]
  congr 3
  have e3 : (f.leastPlace - (k : Int) - (f.leastPlace + ((V.log2 - f.fractionBits : Nat) : Int))).toNat = 0 := by omega
  have e4 : (f.leastPlace + ((V.log2 - f.fractionBits : Nat) : Int) - (f.leastPlace - (k : Int))).toNat = V.log2 - f.fractionBits + k := by omega
  rw [e3, e4, shl, Nat.pow_zero, Nat.mul_one]
  exact rne_scale _ _ _

/-- The word x is a number that is not negative, 'a' units of the least place. -/
def IsNum (x a : Nat) : Prop := ∃ (s : Bool) (m k : Nat), f.read x = .number s m (f.leastPlace + k) ∧ (s = false ∨ m = 0) ∧ a = m * 2 ^ k ∧ ∃ r, a = v f.fractionBits r
def IsInf (x : Nat) : Prop := f.read x = .infinity false

theorem read_of (x : Nat) (neg : Bool) (r : Nat) (h1 : (x / f.signWeight % 2 == 1) = neg) (h2 : x % f.signWeight = r) :
    f.read x = if r < f.binade then .number neg r f.leastPlace else if r < f.infRung then .number neg (f.binade + r % f.binade) (f.leastPlace + (r / f.binade - 1 : Nat)) else if r = f.infRung then .infinity neg else .nan neg (r - f.infRung) := by
  subst h1 h2; rfl

theorem word_parts (s : Bool) (r : Nat) (h : r < f.signWeight) : (f.word s r / f.signWeight % 2 == 1) = s ∧ f.word s r % f.signWeight = r := by
  have hp : 0 < f.signWeight := by omega
  cases s with
  | false =>
    have e : f.word false r = r := rfl
    rw [e, Nat.div_eq_of_lt h, Nat.mod_eq_of_lt h]
    exact ⟨rfl, rfl⟩
  | true =>
    have e : f.word true r = f.signWeight + r := rfl
    rw [e, Nat.add_comm, Nat.add_div_right _ hp, Nat.div_eq_of_lt h, Nat.add_mod_right, Nat.mod_eq_of_lt h]
    exact ⟨rfl, rfl⟩

theorem num_of (s : Bool) (r : Nat) (x : Nat) (h1 : (x / f.signWeight % 2 == 1) = s) (h2 : x % f.signWeight = r) (h : r < f.infRung) (hs : s = false ∨ r = 0) : IsNum f x (v f.fractionBits r) := by
  have hb : f.binade = 2 ^ f.fractionBits := rfl
  have hp : 0 < f.binade := Nat.two_pow_pos _
  have hr := read_of f x s r h1 h2
  by_cases hlt : r < f.binade
  · rw [if_pos hlt] at hr
    refine ⟨s, r, 0, by simpa using hr, hs, ?_, r, rfl⟩
    unfold v; rw [if_pos (by omega)]; simp
  · rw [if_neg hlt, if_pos h] at hr
    refine ⟨s, f.binade + r % f.binade, r / f.binade - 1, hr, Or.inl ?_, ?_, r, rfl⟩
    · rcases hs with hs | hs
      · exact hs
      · omega
    · unfold v; rw [if_neg (by omega), hb]

theorem read_word (r : Nat) (h : r < f.infRung) : IsNum f (f.word false r) (v f.fractionBits r) := by
  have hs := f.infRung_lt
  obtain ⟨e1, e2⟩ := word_parts f false r (by omega)
  exact num_of f false r _ e1 e2 h (Or.inl rfl)

theorem inf_pos : 0 < f.exponentBits → f.binade ≤ f.infRung := by
  intro he
  unfold Format.infRung
  have : 2 ≤ 2 ^ f.exponentBits := by
    have := Nat.pow_le_pow_right (show 0 < 2 by omega) (show 1 ≤ f.exponentBits from he)
    simpa using this
  exact Nat.le_mul_of_pos_left _ (by omega)

theorem read_inf (he : 0 < f.exponentBits) : IsInf f (f.word false f.infRung) := by
  have hs := f.infRung_lt
  obtain ⟨e1, e2⟩ := word_parts f false f.infRung hs
  have hr := read_of f _ _ _ e1 e2
  have := inf_pos f he
  rw [if_neg (by omega), if_neg (by omega), if_pos rfl] at hr
  exact hr

theorem read_zero (he : 0 < f.exponentBits) (s : Bool) : IsNum f (f.word s 0) 0 := by
  have hs := f.infRung_lt
  have := inf_pos f he
  have hp : 0 < f.binade := Nat.two_pow_pos _
  obtain ⟨e1, e2⟩ := word_parts f s 0 (by omega)
  have := num_of f s 0 _ e1 e2 (by omega) (Or.inr rfl)
  rwa [v_zero] at this

/-- What a word that is no NaN and not negative stands for: 'some a': a units; 'none': infinity. -/
def Has (x : Nat) : Option Nat → Prop
  | some a => IsNum f x a
  | none => IsInf f x

/-- Rounded: the value, or infinity. -/
def fl (V : Nat) : Option Nat := if R f.fractionBits V < f.infRung then some (v f.fractionBits (R f.fractionBits V)) else none

theorem has_word (he : 0 < f.exponentBits) (V : Nat) : Has f (f.word false (min (R f.fractionBits V) f.infRung)) (fl f V) := by
  unfold fl
  by_cases h : R f.fractionBits V < f.infRung
  · rw [if_pos h, Nat.min_eq_left (by omega)]; exact read_word f _ h
  · rw [if_neg h, Nat.min_eq_right (by omega)]; exact read_inf f he

theorem fl_zero (he : 0 < f.exponentBits) : fl f 0 = some 0 := by
  have := inf_pos f he
  have hp : 0 < f.binade := Nat.two_pow_pos _
  unfold fl
  rw [R_zero, if_pos (by omega), v_zero]

def addE : Option Nat → Option Nat → Option Nat
  | some a, some b => fl f (a + b)
  | _, _ => none

theorem signed_nonneg (s : Bool) (m k : Nat) (h : s = false ∨ m = 0) : signed s m k = ((m * 2 ^ k : Nat) : Int) := by
  unfold signed
  rw [shl]
  rcases h with rfl | rfl
  · rfl
  · cases s <;> simp

theorem write_num (s : Bool) (m : Nat) (p : Int) : f.write (.number s m p) = f.nearest s m p := rfl
theorem nearest_zero (s : Bool) (p : Int) : f.nearest s 0 p = f.word s 0 := by unfold Format.nearest; rw [if_pos rfl]

theorem add_has (he : 0 < f.exponentBits) {x y : Nat} {a b : Option Nat} (hx : Has f x a) (hy : Has f y b) : ∃ z, f.add x y = some z ∧ Has f z (addE f a b) := by
  unfold Format.add
  cases a with
  | none =>
    have hx : f.read x = .infinity false := hx
    cases b with
    | none =>
      have hy : f.read y = .infinity false := hy
      rw [hx, hy]
      exact ⟨_, rfl, read_inf f he⟩
    | some b =>
      obtain ⟨s, m, k, hy, _⟩ := hy
      rw [hx, hy]
      exact ⟨_, rfl, read_inf f he⟩
  | some a =>
    obtain ⟨s, m, k, hx, hs, ha, _⟩ := hx
    cases b with
    | none =>
      have hy : f.read y = .infinity false := hy
      rw [hx, hy]
      exact ⟨_, rfl, read_inf f he⟩
    | some b =>
      obtain ⟨t, n, l, hy, ht, hb, _⟩ := hy
      rw [hx, hy]
      refine ⟨_, rfl, ?_⟩
      show Has f (f.write _) (fl f (a + b))
      simp only [signed_nonneg _ _ _ hs, signed_nonneg _ _ _ ht]
      have hmin : min (f.leastPlace + (k : Int)) (f.leastPlace + (l : Int)) = f.leastPlace + ((min k l : Nat) : Int) := by omega
      rw [hmin]
      have e1 : (f.leastPlace + (k : Int) - (f.leastPlace + ((min k l : Nat) : Int))).toNat = k - min k l := by omega
      have e2 : (f.leastPlace + (l : Int) - (f.leastPlace + ((min k l : Nat) : Int))).toNat = l - min k l := by omega
      rw [e1, e2, ← Int.natCast_add]
      have key : (m * 2 ^ (k - min k l) + n * 2 ^ (l - min k l)) * 2 ^ min k l = a + b := by
        rw [Nat.add_mul, Nat.mul_assoc, Nat.mul_assoc, ← Nat.pow_add, ← Nat.pow_add, show k - min k l + min k l = k by omega, show l - min k l + min k l = l by omega, ha, hb]
      generalize m * 2 ^ (k - min k l) + n * 2 ^ (l - min k l) = T at key
      rw [Int.natAbs_natCast, write_num]
      by_cases h0 : T = 0
      · subst h0
        have : a + b = 0 := by omega
        rw [this, fl_zero f he, nearest_zero]
        exact read_zero f he _
      · have hn : (if ((T : Int)) = 0 then s && t else decide ((T : Int) < 0)) = false := by
          rw [if_neg (by omega)]; simp
        rw [hn, nearest_up f false T _ h0, key]
        exact has_word f he _

def cmpE : Option Nat → Option Nat → Ordering
  | some a, some b => compare a b
  | some _, none => .lt
  | none, some _ => .gt
  | none, none => .eq

theorem compare_scale (m n i : Nat) : compare ((m : Nat) : Int) ((n : Nat) : Int) = compare (m * 2 ^ i) (n * 2 ^ i) := by
  have hi : 0 < 2 ^ i := Nat.two_pow_pos i
  show compareOfLessAndEq ((m : Nat) : Int) ((n : Nat) : Int) = compareOfLessAndEq (m * 2 ^ i) (n * 2 ^ i)
  unfold compareOfLessAndEq
  by_cases h1 : m < n
  · rw [if_pos (by omega), if_pos ((Nat.mul_lt_mul_right hi).2 h1)]
  · rw [if_neg (by omega), if_neg (fun h => h1 ((Nat.mul_lt_mul_right hi).1 h))]
    by_cases h2 : m = n
    · subst h2; rw [if_pos rfl, if_pos rfl]
    · rw [if_neg (by omega), if_neg (fun h => h2 (Nat.eq_of_mul_eq_mul_right hi h))]

theorem order_has {x y : Nat} {a b : Option Nat} (hx : Has f x a) (hy : Has f y b) : f.order x y = some (cmpE a b) := by
  unfold Format.order
  cases a with
  | none =>
    have hx : f.read x = .infinity false := hx
    cases b with
    | none =>
      have hy : f.read y = .infinity false := hy
      rw [hx, hy]; rfl
    | some b =>
      obtain ⟨s, m, k, hy, _⟩ := hy
      rw [hx, hy]; rfl
  | some a =>
    obtain ⟨s, m, k, hx, hs, ha, _⟩ := hx
    cases b with
    | none =>
      have hy : f.read y = .infinity false := hy
      rw [hx, hy]; rfl
    | some b =>
      obtain ⟨t, n, l, hy, ht, hb, _⟩ := hy
      rw [hx, hy]
      unfold Datum.order
      simp only [signed_nonneg _ _ _ hs, signed_nonneg _ _ _ ht]
      have hmin : min (f.leastPlace + (k : Int)) (f.leastPlace + (l : Int)) = f.leastPlace + ((min k l : Nat) : Int) := by omega
      rw [hmin]
      have e1 : (f.leastPlace + (k : Int) - (f.leastPlace + ((min k l : Nat) : Int))).toNat = k - min k l := by omega
      have e2 : (f.leastPlace + (l : Int) - (f.leastPlace + ((min k l : Nat) : Int))).toNat = l - min k l := by omega
      rw [e1, e2, compare_scale _ _ (min k l)]
      unfold cmpE
      rw [Nat.mul_assoc, Nat.mul_assoc, ← Nat.pow_add, ← Nat.pow_add, show k - min k l + min k l = k by omega, show l - min k l + min k l = l by omega, ha, hb]

theorem order_neg (r : Nat) (p q : Int) (h : 0 < r) : Datum.order (.number true r p) (.number false 0 q) = some .lt := by
  unfold Datum.order
  have e1 : ∀ k, signed true r k = -((r * 2 ^ k : Nat) : Int) := fun k => by unfold signed; rw [shl]; rfl
  have e2 : ∀ k, signed false 0 k = 0 := fun k => by unfold signed; rw [shl]; simp
  simp only [e1, e2]
  congr 1
  show compareOfLessAndEq _ _ = _
  unfold compareOfLessAndEq
  have : 0 < r * 2 ^ (p - min p q).toNat := Nat.mul_pos h (Nat.two_pow_pos _)
  rw [if_pos (by omega)]

/-- What is at least zero. -/
theorem has_of_ge (he : 0 < f.exponentBits) (x : Nat) (h : f.order x 0 = some .gt ∨ f.order x 0 = some .eq) : ∃ a, Has f x a := by
  have hz : f.read 0 = .number false 0 f.leastPlace := by
    have hp : 0 < f.binade := Nat.two_pow_pos _
    have := read_of f 0 false 0 (by simp) (by simp)
    rwa [if_pos hp] at this
  unfold Format.order at h
  rw [hz] at h
  have hr := read_of f x _ _ rfl rfl
  by_cases h1 : x % f.signWeight < f.infRung
  · refine ⟨some (v f.fractionBits (x % f.signWeight)), num_of f _ _ x rfl rfl h1 ?_⟩
    cases hs : (x / f.signWeight % 2 == 1) with
    | false => exact Or.inl rfl
    | true =>
      right
      rw [hs] at hr
      by_cases h2 : x % f.signWeight < f.binade
      · rw [if_pos h2] at hr
        rw [hr] at h
        by_cases h0 : x % f.signWeight = 0
        · exact h0
        · rw [order_neg _ _ _ (by omega)] at h
          simp at h
      · rw [if_neg h2, if_pos h1] at hr
        rw [hr] at h
        exfalso
        have hp : 0 < f.binade := Nat.two_pow_pos _
        rw [order_neg _ _ _ (by omega)] at h
        simp at h
  · by_cases h2 : x % f.signWeight = f.infRung
    · have := inf_pos f he
      rw [if_neg (by omega), if_neg h1, if_pos h2] at hr
      refine ⟨none, ?_⟩
      show f.read x = .infinity false
      rw [hr] at h ⊢
      cases hs : (x / f.signWeight % 2 == 1) with
      | false => rfl
      | true => rw [hs] at h; simp [Datum.order] at h
    · have := inf_pos f he
      rw [if_neg (by omega), if_neg h1, if_neg h2] at hr
      rw [hr] at h
      simp [Datum.order] at h

/-- Five times it: 'five' is the word of 5. -/
theorem mul_has (he : 0 < f.exponentBits) (five j : Nat) (h5 : f.read five = .number false (5 * 2 ^ j) (-(j : Int))) {x : Nat} {a : Option Nat} (hx : Has f x a) :
    ∃ z, f.mul five x = some z ∧ Has f z (a.bind fun a => fl f (5 * a)) := by
  unfold Format.mul
  rw [h5]
  cases a with
  | none =>
    have hx : f.read x = .infinity false := hx
    have hj : 0 < 2 ^ j := Nat.two_pow_pos j
    rw [hx]
    refine ⟨f.word false f.infRung, ?_, read_inf f he⟩
    show ((if 5 * 2 ^ j = 0 then none else some (Datum.infinity (false ^^ false))) : Option Datum).map f.write = _
    rw [if_neg (by omega)]
    rfl
  | some a =>
    obtain ⟨s, m, k, hx, hs, ha, _⟩ := hx
    rw [hx]
    refine ⟨f.nearest (false ^^ s) (5 * 2 ^ j * m) (-(j : Int) + (f.leastPlace + (k : Int))), rfl, ?_⟩
    show Has f _ (fl f (5 * a))
    by_cases h0 : m = 0
    · subst h0
      rw [Nat.mul_zero, nearest_zero, ha, Nat.zero_mul, Nat.mul_zero, fl_zero f he]
      exact read_zero f he _
    · have hs' : s = false := by
        rcases hs with h | h
        · exact h
        · exact absurd h h0
      subst hs'
      have hj : 0 < 2 ^ j := Nat.two_pow_pos j
      by_cases hk : j ≤ k
      · have e : (-(j : Int) + (f.leastPlace + (k : Int))) = f.leastPlace + ((k - j : Nat) : Int) := by omega
        have e2 : 5 * 2 ^ j * m * 2 ^ (k - j) = 5 * a := by
          rw [ha, show 5 * 2 ^ j * m * 2 ^ (k - j) = 5 * (m * (2 ^ j * 2 ^ (k - j))) by ac_rfl, ← Nat.pow_add, show j + (k - j) = k by omega]
        have hne : 5 * 2 ^ j * m ≠ 0 := by
          intro h; rcases Nat.mul_eq_zero.1 h with h | h <;> omega
        rw [e, show (false ^^ false) = false from rfl, nearest_up f false _ _ hne, e2]
        exact has_word f he _
      · have e : (-(j : Int) + (f.leastPlace + (k : Int))) = f.leastPlace - ((j - k : Nat) : Int) := by omega
        have e2 : 5 * 2 ^ j * m = (5 * a) * 2 ^ (j - k) := by
          rw [ha, show 5 * (m * 2 ^ k) * 2 ^ (j - k) = 5 * (2 ^ k * 2 ^ (j - k)) * m by ac_rfl, ← Nat.pow_add, show k + (j - k) = j by omega]
        have hk0 : 0 < 2 ^ k := Nat.two_pow_pos k
        have ha0 : 5 * a ≠ 0 := by
          rw [ha]; intro h
          rcases Nat.mul_eq_zero.1 h with h | h
          · omega
          · rcases Nat.mul_eq_zero.1 h with h | h <;> omega
        rw [e, e2, show (false ^^ false) = false from rfl, nearest_down f false _ _ ha0]
        exact has_word f he _

theorem five_read : double.read 4617315517961601024 = .number false (5 * 2 ^ 50) (-((50 : Nat) : Int)) := by decide +kernel

end Go.Proofs.Qxb6609224a.Co
