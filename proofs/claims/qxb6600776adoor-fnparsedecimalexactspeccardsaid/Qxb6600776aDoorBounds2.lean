import Derived.Test.Qxb6600776aDoorBounds
set_option linter.unusedSimpArgs false
set_option linter.unusedVariables false
set_option exponentiation.threshold 10000
namespace Go.Proofs.Qxb6600776aDoor

theorem FB.bot {X0 P e1 t s : Nat} (h : FB X0 P 0 e1 t s) (h8 : P < 10 ^ 800) (hs : s ≤ 100000) (hX : 10 ^ 869 ≤ X0) : t ≤ e1 + 1200 := by
  refine Nat.le_of_not_lt (fun hlt => ?_)
  have hT : 0 < 2 ^ e1 := Nat.pow_pos (by omega)
  have hl := h.lo
  have hz : Z 0 = 10 ^ 400 := rfl
  rw [hz] at hl
  have hs' : 10 ^ 799 - 100000 ≤ 10 ^ 799 - s := Nat.sub_le_sub_left hs _
  have k1 : 2 ^ (e1 + 1200) ≤ 2 ^ t := Nat.pow_le_pow_right (by omega) (by omega)
  have low : (10 ^ 799 - 100000) * (10 ^ 869) * 2 ^ 1200 * 2 ^ e1 ≤ P * 10 ^ 400 * 2 ^ e1 * 10 ^ 799 := by
    refine Nat.le_trans ?_ hl
    have : (10 ^ 799 - 100000) * (10 ^ 869) * 2 ^ 1200 * 2 ^ e1 = (10 ^ 799 - 100000) * (10 ^ 869 * 2 ^ (e1 + 1200)) := by
      rw [Nat.pow_add]; simp only [Nat.mul_assoc, Nat.mul_comm, Nat.mul_left_comm]
    rw [this]
    exact Nat.mul_le_mul hs' (Nat.mul_le_mul hX k1)
  have k2 : P * 10 ^ 400 * 2 ^ e1 * 10 ^ 799 ≤ 10 ^ 800 * 10 ^ 400 * 10 ^ 799 * 2 ^ e1 := by
    rw [Nat.mul_right_comm]
    exact Nat.mul_le_mul_right _ (Nat.mul_le_mul_right _ (Nat.mul_le_mul_right _ (Nat.le_of_lt h8)))
  have k3 := Nat.le_of_mul_le_mul_right (Nat.le_trans low k2) hT
  exact absurd k3 (by decide +kernel)

def ptab (k : Nat) : Nat := [1, 3, 6, 9, 13, 16, 19, 23, 26].getD k 0
def tabN (m : Nat) : Nat := if 9 ≤ m then 27 else ptab m
theorem tabN_lt : ∀ m : Fin 9, 1 ≤ m.val → 3 ≤ ptab m.val ∧ ptab m.val ≤ 27 ∧ 2 ^ ptab m.val ≤ 10 ^ m.val := by decide
theorem tabN_fact (m : Nat) (h : 1 ≤ m) : 3 ≤ tabN m ∧ tabN m ≤ 27 ∧ 2 ^ tabN m ≤ 10 ^ m := by
  unfold tabN
  split
  · exact ⟨by omega, by omega, Nat.le_trans (by decide : 2 ^ 27 ≤ 10 ^ 9) (Nat.pow_le_pow_right (by omega) (by omega))⟩
  · exact tabN_lt ⟨m, by omega⟩ h
theorem mu_right {P P' j n : Nat} {dp : Int} (h1 : 10 ^ 799 ≤ P) (hP : P' = P * 10 ^ j / 2 ^ n) (hn : 3 ≤ n) (h3 : P' < 10 ^ 800) : (dp - j) * 10 + (P' / 10 ^ 799 : Nat) < dp * 10 + (P / 10 ^ 799 : Nat) := by
  have e8 : (10:Nat) ^ 800 = 10 * 10 ^ 799 := by decide +kernel
  have hq : 0 < 10 ^ 799 := Nat.pow_pos (by omega)
  rw [e8] at h3
  generalize 10 ^ 799 = q at *
  have l1 : 1 ≤ P / q := by rw [Nat.le_div_iff_mul_le hq]; omega
  have l2 : P' / q < 10 := by rw [Nat.div_lt_iff_lt_mul hq]; exact h3
  by_cases hj : j = 0
  · subst hj
    rw [Nat.pow_zero, Nat.mul_one] at hP
    have h8 : P' * 8 ≤ P := by
      have : P' * 2 ^ n ≤ P := by rw [hP]; exact Nat.div_mul_le_self _ _
      have : 2 ^ 3 ≤ 2 ^ n := Nat.pow_le_pow_right (by omega) hn
      have : P' * 2 ^ 3 ≤ P' * 2 ^ n := Nat.mul_le_mul_left _ this
      omega
    have : P' / q < P / q := by
      refine Nat.lt_of_not_le (fun hle => ?_)
      have a1 : P / q * q ≤ P' := Nat.le_trans (Nat.mul_le_mul_right _ hle) (Nat.div_mul_le_self _ _)
      have a2 : P < P / q * q + q := by
        have := Nat.lt_mul_of_div_lt (Nat.lt_succ_self (P / q)) hq
        rw [Nat.succ_mul] at this; exact this
      have a3 : 1 * q ≤ P / q * q := Nat.mul_le_mul_right _ l1
      omega
    omega
  · omega
theorem mu_left {P P' dl n : Nat} {dp : Int} (h1 : 10 ^ 799 ≤ P) (h2 : P < 10 ^ 800) (hP : P' = P * 2 ^ n / 10 ^ dl) (hn : 1 ≤ n) (h1' : 10 ^ 799 ≤ P') : (-(dp + dl)) * 10 + 9 - (P' / 10 ^ 799 : Nat) < (-dp) * 10 + 9 - (P / 10 ^ 799 : Nat) := by
  have e8 : (10:Nat) ^ 800 = 10 * 10 ^ 799 := by decide +kernel
  have hq : 0 < 10 ^ 799 := Nat.pow_pos (by omega)
  rw [e8] at h2
  generalize 10 ^ 799 = q at *
  have l1 : 1 ≤ P / q := by rw [Nat.le_div_iff_mul_le hq]; omega
  have l2 : P / q < 10 := by rw [Nat.div_lt_iff_lt_mul hq]; exact h2
  have l1' : 1 ≤ P' / q := by rw [Nat.le_div_iff_mul_le hq]; omega
  by_cases hj : dl = 0
  · subst hj
    rw [Nat.pow_zero, Nat.div_one] at hP
    have h8 : P * 2 ≤ P' := by
      have : 2 ^ 1 ≤ 2 ^ n := Nat.pow_le_pow_right (by omega) hn
      have : P * 2 ^ 1 ≤ P * 2 ^ n := Nat.mul_le_mul_left _ this
      omega
    have : P / q < P' / q := by
      have a1 : P / q * q ≤ P := Nat.div_mul_le_self _ _
      have a3 : 1 * q ≤ P / q * q := Nat.mul_le_mul_right _ l1
      have : (P / q + 1) * q ≤ P' := by rw [Nat.add_mul]; omega
      have := (Nat.le_div_iff_mul_le hq).2 this
      omega
    omega
  · omega
/-- The second loop does not run past the point. -/
theorem dp_left {P P' dl n : Nat} {dp : Int} (h2 : P < 10 ^ 800) (hP : P' = P * 2 ^ n / 10 ^ dl) (h1' : 10 ^ 799 ≤ P') (hd : dp < 0 ∧ 2 ^ n ≤ 10 ^ (-dp).toNat ∨ dp = 0 ∧ n = 1 ∧ P < 5 * 10 ^ 799) : dp + dl ≤ 0 := by
  refine Int.not_lt.1 (fun hlt => ?_)
  have e8 : (10:Nat) ^ 800 = 10 * 10 ^ 799 := by decide +kernel
  have hq : 0 < 10 ^ 799 := Nat.pow_pos (by omega)
  rw [e8] at h2
  have h3 : P' * 10 ^ dl ≤ P * 2 ^ n := by rw [hP]; exact Nat.div_mul_le_self _ _
  have h4 : 10 ^ 799 * 10 ^ dl ≤ P * 2 ^ n := Nat.le_trans (Nat.mul_le_mul_right _ h1') h3
  rcases hd with ⟨a, b⟩ | ⟨a, b, c⟩
  · have h5 : 10 ^ (1 + (-dp).toNat) ≤ 10 ^ dl := Nat.pow_le_pow_right (by omega) (by omega)
    rw [Nat.pow_add, Nat.pow_one] at h5
    have h6 : P * 2 ^ n < 10 * 10 ^ 799 * 10 ^ (-dp).toNat := Nat.lt_of_lt_of_le (Nat.mul_lt_mul_of_pos_right h2 (Nat.pow_pos (by omega))) (Nat.mul_le_mul_left _ b)
    have h7 : 10 ^ 799 * (10 * 10 ^ (-dp).toNat) ≤ 10 ^ 799 * 10 ^ dl := Nat.mul_le_mul_left _ h5
    have e : 10 * 10 ^ 799 * 10 ^ (-dp).toNat = 10 ^ 799 * (10 * 10 ^ (-dp).toNat) := by simp only [Nat.mul_assoc, Nat.mul_comm, Nat.mul_left_comm]
    omega
  · subst b
    have h5 : 10 ^ 1 ≤ 10 ^ dl := Nat.pow_le_pow_right (by omega) (by omega)
    have h7 : 10 ^ 799 * 10 ^ 1 ≤ 10 ^ 799 * 10 ^ dl := Nat.mul_le_mul_left _ h5
    generalize 10 ^ 799 = q at *
    generalize q * 10 ^ dl = y at *
    omega
/-- The mantissa, before it is rounded. -/
theorem mant_dl {P2 P3 dl : Nat} (h2 : P2 < 10 ^ 800) (hP : P3 = P2 * 2 ^ 53 / 10 ^ dl) (h1 : 10 ^ 799 ≤ P3) : dl ≤ 16 := by
  refine Nat.le_of_not_lt (fun hlt => ?_)
  have h3 : P3 * 10 ^ dl ≤ P2 * 2 ^ 53 := by rw [hP]; exact Nat.div_mul_le_self _ _
  have h5 : 10 ^ 17 ≤ 10 ^ dl := Nat.pow_le_pow_right (by omega) (by omega)
  have h6 : 10 ^ 799 * 10 ^ 17 ≤ P3 * 10 ^ dl := Nat.mul_le_mul h1 h5
  have h7 : P2 * 2 ^ 53 < 10 ^ 800 * 2 ^ 53 := Nat.mul_lt_mul_of_pos_right h2 (by decide)
  have h8 : 10 ^ 800 * 2 ^ 53 ≤ 10 ^ 799 * 10 ^ 17 := by decide +kernel
  omega
theorem mant_lt {P2 P3 dl d : Nat} (h2 : P2 < 10 ^ 800) (hP : P3 = P2 * 2 ^ 53 / 10 ^ dl) (hd : d ≤ dl) (h16 : dl ≤ 16) : P3 / 10 ^ (800 - d) < 2 ^ 53 := by
  rw [hP, Nat.div_div_eq_div_mul, ← Nat.pow_add, Nat.div_lt_iff_lt_mul (Nat.pow_pos (by omega))]
  have h7 : P2 * 2 ^ 53 < 10 ^ 800 * 2 ^ 53 := Nat.mul_lt_mul_of_pos_right h2 (by decide)
  have h5 : 10 ^ 800 ≤ 10 ^ (dl + (800 - d)) := Nat.pow_le_pow_right (by omega) (by omega)
  have h6 : 2 ^ 53 * 10 ^ 800 ≤ 2 ^ 53 * 10 ^ (dl + (800 - d)) := Nat.mul_le_mul_left _ h5
  generalize 10 ^ 800 = a at *
  generalize 10 ^ (dl + (800 - d)) = b at *
  generalize 2 ^ 53 = c at *
  rw [Nat.mul_comm a c] at h7
  exact Nat.lt_of_lt_of_le h7 h6
theorem mant_eq {P2 P3 dl : Nat} (hP : P3 = P2 * 2 ^ 53 / 10 ^ dl) (h16 : dl ≤ 16) : P3 / 10 ^ (800 - dl) = P2 * 2 ^ 53 / 10 ^ 800 := by
  have e : dl + (800 - dl) = 800 := by omega
  rw [hP, Nat.div_div_eq_div_mul, ← Nat.pow_add, e]
theorem mant_ge5 {P : Nat} (h : 5 * 10 ^ 799 ≤ P) : 4503599627370496 ≤ P * 2 ^ 53 / 10 ^ 800 := by
  rw [Nat.le_div_iff_mul_le (Nat.pow_pos (by omega))]
  have : 5 * 10 ^ 799 * 2 ^ 53 ≤ P * 2 ^ 53 := Nat.mul_le_mul_right _ h
  have e : 4503599627370496 * 10 ^ 800 = 5 * 10 ^ 799 * 2 ^ 53 := by decide +kernel
  omega
theorem mant_lt95 {P : Nat} (h : P < 95 * 10 ^ 798) : P * 2 ^ 53 / 10 ^ 800 < 9007199254740991 := by
  rw [Nat.div_lt_iff_lt_mul (Nat.pow_pos (by omega))]
  have : P * 2 ^ 53 < 95 * 10 ^ 798 * 2 ^ 53 := Nat.mul_lt_mul_of_pos_right h (by decide)
  have e : 95 * 10 ^ 798 * 2 ^ 53 ≤ 9007199254740991 * 10 ^ 800 := by decide +kernel
  omega
theorem mant_ge94 {P : Nat} (h : 94 * 10 ^ 798 ≤ P) : 8400000000000000 ≤ P * 2 ^ 53 / 10 ^ 800 := by
  rw [Nat.le_div_iff_mul_le (Nat.pow_pos (by omega))]
  have : 94 * 10 ^ 798 * 2 ^ 53 ≤ P * 2 ^ 53 := Nat.mul_le_mul_right _ h
  have e : 8400000000000000 * 10 ^ 800 ≤ 94 * 10 ^ 798 * 2 ^ 53 := by decide +kernel
  exact Nat.le_trans e this
end Go.Proofs.Qxb6600776aDoor
