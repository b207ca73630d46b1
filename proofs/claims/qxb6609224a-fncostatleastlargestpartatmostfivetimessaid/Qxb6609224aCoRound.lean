import Ieee.Arith
namespace Go.Proofs.Qxb6609224a.Co

/-- Half to even: 'n / 2 ^ d'. -/
def rne (n d : Nat) : Nat := n / 2 ^ d + if 2 ^ d < 2 * (n % 2 ^ d) ∨ (2 ^ d = 2 * (n % 2 ^ d) ∧ n / 2 ^ d % 2 = 1) then 1 else 0
/-- The rung of the value V (in units of the least place), K bits of fraction; no top. -/
def R (K V : Nat) : Nat := (V.log2 - K) * 2 ^ K + rne V (V.log2 - K)
/-- The value of a rung. -/
def v (K r : Nat) : Nat := if r < 2 ^ K then r else (2 ^ K + r % 2 ^ K) * 2 ^ (r / 2 ^ K - 1)

theorem rne_ge (n d : Nat) : n / 2 ^ d ≤ rne n d := by unfold rne; exact Nat.le_add_right _ _
theorem rne_le (n d : Nat) : rne n d ≤ n / 2 ^ d + 1 := by
  unfold rne; split <;> omega

theorem rne_mono {a b : Nat} (d : Nat) (h : a ≤ b) : rne a d ≤ rne b d := by
  have hg : 0 < 2 ^ d := Nat.two_pow_pos d
  have hq : a / 2 ^ d ≤ b / 2 ^ d := Nat.div_le_div_right h
  by_cases e : a / 2 ^ d = b / 2 ^ d
  · have ha := Nat.div_add_mod a (2 ^ d)
    have hb := Nat.div_add_mod b (2 ^ d)
    unfold rne
    rw [e] at ha ⊢
    generalize 2 ^ d * (b / 2 ^ d) = q at ha hb
    generalize 2 ^ d = g at *
    split
    · rename_i hc
      rw [if_pos (by omega)]; omega
    · split <;> omega
  · have := rne_le a d
    have := rne_ge b d
    omega

theorem rne_exact (m d : Nat) : rne (m * 2 ^ d) d = m := by
  have hg : 0 < 2 ^ d := Nat.two_pow_pos d
  unfold rne
  rw [Nat.mul_mod_left, Nat.mul_div_cancel _ hg, if_neg (by omega)]; omega

theorem rne_scale (V d k : Nat) : rne (V * 2 ^ k) (d + k) = rne V d := by
  have hk : 0 < 2 ^ k := Nat.two_pow_pos k
  unfold rne
  rw [Nat.pow_add, Nat.mul_div_mul_right _ _ hk, Nat.mul_mod_mul_right]
  have e1 : (2 ^ d * 2 ^ k < 2 * (V % 2 ^ d * 2 ^ k)) ↔ (2 ^ d < 2 * (V % 2 ^ d)) := by
    rw [← Nat.mul_assoc]; exact Nat.mul_lt_mul_right hk
  have e2 : (2 ^ d * 2 ^ k = 2 * (V % 2 ^ d * 2 ^ k)) ↔ (2 ^ d = 2 * (V % 2 ^ d)) := by
    rw [← Nat.mul_assoc]; exact ⟨fun h => Nat.eq_of_mul_eq_mul_right hk h, fun h => congrArg (fun z => z * 2 ^ k) h⟩
  simp only [e1, e2]

theorem log2_mul (V k : Nat) (h : V ≠ 0) : (V * 2 ^ k).log2 = V.log2 + k := by
  have hk : 0 < 2 ^ k := Nat.two_pow_pos k
  have h' : V * 2 ^ k ≠ 0 := by
    intro e; rcases Nat.mul_eq_zero.1 e with e | e <;> omega
  have lo := Nat.log2_self_le h
  have hi := @Nat.lt_log2_self V
  apply Nat.le_antisymm
  · apply Nat.le_of_lt_succ
    rw [Nat.log2_lt h', Nat.succ_eq_add_one, show V.log2 + k + 1 = (V.log2 + 1) + k by omega, Nat.pow_add]
    exact (Nat.mul_lt_mul_right hk).2 hi
  · rw [Nat.le_log2 h', Nat.pow_add]
    exact Nat.mul_le_mul_right _ lo

theorem R_lo (K V : Nat) (h : K < V.log2) : (V.log2 - K + 1) * 2 ^ K ≤ R K V := by
  have h0 : V ≠ 0 := by intro e; subst e; simp at h
  have lo := Nat.log2_self_le h0
  have q : 2 ^ K ≤ V / 2 ^ (V.log2 - K) := by
    rw [Nat.le_div_iff_mul_le (Nat.two_pow_pos _), ← Nat.pow_add, show K + (V.log2 - K) = V.log2 by omega]
    exact lo
  have := rne_ge V (V.log2 - K)
  unfold R
  rw [Nat.succ_mul]; omega

theorem R_hi (K V : Nat) : R K V ≤ (V.log2 - K + 2) * 2 ^ K := by
  have hi := @Nat.lt_log2_self V
  have q : V / 2 ^ (V.log2 - K) < 2 ^ (K + 1) := by
    rw [Nat.div_lt_iff_lt_mul (Nat.two_pow_pos _), ← Nat.pow_add]
    exact Nat.lt_of_lt_of_le hi (Nat.pow_le_pow_right (by omega) (by omega))
  have := rne_le V (V.log2 - K)
  have e : (V.log2 - K + 2) * 2 ^ K = (V.log2 - K) * 2 ^ K + 2 ^ (K + 1) := by
    rw [Nat.add_mul, Nat.pow_succ, Nat.mul_comm 2]
  unfold R
  omega

theorem log2_mono {a b : Nat} (h : a ≤ b) : a.log2 ≤ b.log2 := by
  by_cases ha : a = 0
  · subst ha; simp
  · rw [Nat.le_log2 (by omega)]
    exact Nat.le_trans (Nat.log2_self_le ha) h

theorem R_mono (K : Nat) {a b : Nat} (h : a ≤ b) : R K a ≤ R K b := by
  have hl := log2_mono h
  by_cases e : a.log2 - K = b.log2 - K
  · unfold R
    rw [e]
    exact Nat.add_le_add_left (rne_mono _ h) _
  · have h1 := R_hi K a
    have h2 := R_lo K b (by omega)
    have : (a.log2 - K + 2) * 2 ^ K ≤ (b.log2 - K + 1) * 2 ^ K := Nat.mul_le_mul_right _ (by omega)
    omega

theorem R_small (K V : Nat) (h : V < 2 ^ (K + 1)) : R K V = V := by
  have hl : V.log2 - K = 0 := by
    by_cases h0 : V = 0
    · subst h0; simp
    · have := (Nat.log2_lt h0).2 h
      omega
  unfold R
  rw [hl]
  have := rne_exact V 0
  simp at this
  rw [this]; omega

theorem R_big (K f q : Nat) (h : f < 2 ^ K) : R K ((2 ^ K + f) * 2 ^ q) = (q + 1) * 2 ^ K + f := by
  have hK : 0 < 2 ^ K := Nat.two_pow_pos K
  have h0 : 2 ^ K + f ≠ 0 := by omega
  have hl : (2 ^ K + f).log2 = K := by
    apply Nat.le_antisymm
    · apply Nat.le_of_lt_succ
      rw [Nat.log2_lt h0, Nat.pow_succ]; omega
    · rw [Nat.le_log2 h0]; omega
  unfold R
  rw [log2_mul _ _ h0, hl, show K + q - K = q by omega, rne_exact, Nat.succ_mul]; omega

theorem R_v (K r : Nat) : R K (v K r) = r := by
  have hK : 0 < 2 ^ K := Nat.two_pow_pos K
  unfold v
  split
  · exact R_small K r (by rw [Nat.pow_succ]; omega)
  · rename_i h
    have hq : 1 ≤ r / 2 ^ K := by rw [Nat.le_div_iff_mul_le hK]; omega
    rw [R_big K _ _ (Nat.mod_lt _ hK), show r / 2 ^ K - 1 + 1 = r / 2 ^ K by omega]
    have := Nat.div_add_mod r (2 ^ K)
    rw [Nat.mul_comm] at this
    exact this

theorem v_mono (K : Nat) {r s : Nat} (h : r ≤ s) : v K r ≤ v K s := by
  by_cases hlt : v K s < v K r
  · have := R_mono K (Nat.le_of_lt hlt)
    rw [R_v, R_v] at this
    have : r = s := by omega
    subst this; omega
  · omega

theorem v_two (K r : Nat) : ∃ r', v K r' = 2 * v K r := by
  have hK : 0 < 2 ^ K := Nat.two_pow_pos K
  by_cases h : r < 2 ^ K
  · refine ⟨2 * r, ?_⟩
    have e : v K r = r := by unfold v; rw [if_pos h]
    rw [e]
    unfold v
    split
    · rfl
    · rename_i h2
      have hq : 2 * r / 2 ^ K = 1 := by
        apply Nat.le_antisymm
        · apply Nat.le_of_lt_succ; rw [Nat.div_lt_iff_lt_mul hK]; omega
        · rw [Nat.le_div_iff_mul_le hK]; omega
      have := Nat.div_add_mod (2 * r) (2 ^ K)
      rw [hq] at this ⊢
      simp; omega
  · refine ⟨r + 2 ^ K, ?_⟩
    have hq : 1 ≤ r / 2 ^ K := by rw [Nat.le_div_iff_mul_le hK]; omega
    unfold v
    rw [if_neg (by omega), if_neg h, Nat.add_mod_right, Nat.add_div_right _ hK, show (r / 2 ^ K).succ - 1 = (r / 2 ^ K - 1) + 1 by omega, Nat.pow_succ, ← Nat.mul_assoc, Nat.mul_comm]

theorem v_zero (K : Nat) : v K 0 = 0 := by unfold v; rw [if_pos (Nat.two_pow_pos K)]
theorem R_zero (K : Nat) : R K 0 = 0 := by have := R_v K 0; rwa [v_zero] at this

end Go.Proofs.Qxb6609224a.Co
