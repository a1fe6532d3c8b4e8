import Derived.Test.Qxb6600776aDoorDigits
set_option linter.unusedSimpArgs false
set_option linter.unusedVariables false
set_option exponentiation.threshold 10000
namespace Go.Proofs.Qxb6600776aDoor

def Z (dp : Int) : Nat := 10 ^ (dp + 400).toNat
theorem Z_add (dp : Int) (j : Nat) (h : -400 ≤ dp) : Z (dp + j) = Z dp * 10 ^ j := by
  unfold Z
  have : (dp + j + 400).toNat = (dp + 400).toNat + j := by omega
  rw [this, Nat.pow_add]
theorem Z_sub (dp : Int) (j : Nat) (h : -400 ≤ dp - j) : Z (dp - j) * 10 ^ j = Z dp := by
  have := Z_add (dp - j) j h
  rw [Int.sub_add_cancel] at this
  exact this.symm
theorem Z_pos (dp : Int) : 0 < Z dp := Nat.pow_pos (by omega)
/-- The value so far against the value at the start: X0 * 2^(t - e1), from above, and from below but for s parts in 10^799. -/
structure FB (X0 P : Nat) (dp : Int) (e1 t s : Nat) : Prop where
  up : P * Z dp * 2 ^ e1 ≤ X0 * 2 ^ t
  lo : (10 ^ 799 - s) * (X0 * 2 ^ t) ≤ P * Z dp * 2 ^ e1 * 10 ^ 799
theorem FB.init (P0 : Nat) (dp0 : Int) : FB (P0 * Z dp0) P0 dp0 0 0 0 := by
  constructor
  · exact Nat.le_refl _
  · simp only [Nat.pow_zero, Nat.mul_one, Nat.sub_zero]; rw [Nat.mul_comm]; exact Nat.le_refl _
theorem step_bounds (E X T m Y Y' G' s : Nat) (u1 : Y' ≤ Y * m) (u2 : Y * m ≤ Y' + G') (hG : G' * E ≤ Y') (hu : Y ≤ X * T) (hl : (E - s) * (X * T) ≤ Y * E) :
    Y' ≤ X * (T * m) ∧ (E - (s + 1)) * (X * (T * m)) ≤ Y' * E := by
  have a1 : Y * m ≤ X * T * m := Nat.mul_le_mul_right _ hu
  have e : X * (T * m) = X * T * m := (Nat.mul_assoc ..).symm
  have b1 : Y' ≤ X * T * m := Nat.le_trans u1 a1
  refine ⟨by rw [e]; exact b1, ?_⟩
  have a2 : (E - s) * (X * T) * m ≤ Y * E * m := Nat.mul_le_mul_right _ hl
  have a3 : Y * E * m ≤ (Y' + G') * E := by
    rw [Nat.mul_right_comm]; exact Nat.mul_le_mul_right _ u2
  have a4 : (Y' + G') * E = Y' * E + G' * E := Nat.add_mul ..
  rw [e]
  have e2 : E - (s + 1) = E - s - 1 := by omega
  rw [e2, Nat.sub_mul, Nat.one_mul]
  rw [Nat.mul_assoc] at a2
  omega
theorem FB.right {X0 P P' : Nat} {dp : Int} {e1 t s n j : Nat} (h : FB X0 P dp e1 t s) (hP : P' = P * 10 ^ j / 2 ^ n) (hg : 10 ^ 799 ≤ P') (hd : -400 ≤ dp - j) : FB X0 P' (dp - j) (e1 + n) t (s + 1) := by
  have p2 : 0 < 2 ^ n := Nat.pow_pos (by omega)
  have q1 : P' * 2 ^ n ≤ P * 10 ^ j := by rw [hP]; exact Nat.div_mul_le_self _ _
  have q2 : P * 10 ^ j ≤ (P' + 1) * 2 ^ n := by
    rw [hP]; exact Nat.le_of_lt (Nat.lt_mul_of_div_lt (Nat.lt_succ_self _) p2)
  have hz := Z_sub dp j hd
  have eA : ∀ A, A * Z (dp - j) * 2 ^ (e1 + n) = A * 2 ^ n * (Z (dp - j) * 2 ^ e1) := fun A => by
    rw [Nat.pow_add]; simp only [Nat.mul_assoc, Nat.mul_comm, Nat.mul_left_comm]
  have eB : P * Z dp * 2 ^ e1 = P * 10 ^ j * (Z (dp - j) * 2 ^ e1) := by
    rw [← hz]; simp only [Nat.mul_assoc, Nat.mul_comm, Nat.mul_left_comm]
  have := step_bounds (10 ^ 799) X0 (2 ^ t) 1 (P * Z dp * 2 ^ e1) (P' * Z (dp - j) * 2 ^ (e1 + n)) (1 * Z (dp - j) * 2 ^ (e1 + n)) s
    (by rw [Nat.mul_one, eA, eB]; exact Nat.mul_le_mul_right _ q1)
    (by rw [Nat.mul_one, eA, eB, eA, ← Nat.add_mul, ← Nat.add_mul]; exact Nat.mul_le_mul_right _ q2)
    (by rw [Nat.one_mul, Nat.mul_comm, Nat.mul_assoc]; exact Nat.mul_le_mul_right _ hg) h.up h.lo
  rw [Nat.mul_one] at this
  exact ⟨this.1, this.2⟩
theorem FB.left {X0 P P' : Nat} {dp : Int} {e1 t s n j : Nat} (h : FB X0 P dp e1 t s) (hP : P' = P * 2 ^ n / 10 ^ j) (hg : 10 ^ 799 ≤ P') (hd : -400 ≤ dp) : FB X0 P' (dp + j) e1 (t + n) (s + 1) := by
  have p2 : 0 < 10 ^ j := Nat.pow_pos (by omega)
  have q1 : P' * 10 ^ j ≤ P * 2 ^ n := by rw [hP]; exact Nat.div_mul_le_self _ _
  have q2 : P * 2 ^ n ≤ (P' + 1) * 10 ^ j := by
    rw [hP]; exact Nat.le_of_lt (Nat.lt_mul_of_div_lt (Nat.lt_succ_self _) p2)
  have hz := Z_add dp j hd
  have eA : ∀ A, A * Z (dp + j) * 2 ^ e1 = A * 10 ^ j * (Z dp * 2 ^ e1) := fun A => by
    rw [hz]; simp only [Nat.mul_assoc, Nat.mul_comm, Nat.mul_left_comm]
  have eB : P * Z dp * 2 ^ e1 * 2 ^ n = P * 2 ^ n * (Z dp * 2 ^ e1) := by
    simp only [Nat.mul_assoc, Nat.mul_comm, Nat.mul_left_comm]
  have := step_bounds (10 ^ 799) X0 (2 ^ t) (2 ^ n) (P * Z dp * 2 ^ e1) (P' * Z (dp + j) * 2 ^ e1) (1 * Z (dp + j) * 2 ^ e1) s
    (by rw [eA, eB]; exact Nat.mul_le_mul_right _ q1)
    (by rw [eB, eA, eA, ← Nat.add_mul, ← Nat.add_mul]; exact Nat.mul_le_mul_right _ q2)
    (by rw [Nat.one_mul, Nat.mul_comm, Nat.mul_assoc]; exact Nat.mul_le_mul_right _ hg) h.up h.lo
  rw [← Nat.pow_add] at this
  exact ⟨this.1, this.2⟩

theorem FB.small {X0 P e1 t s : Nat} (h : FB X0 P 0 e1 t s) (h5 : 5 * 10 ^ 799 ≤ P) (hX : X0 < 17 * 10 ^ 1507) : e1 < t + 1025 ∧ (e1 = t + 1024 → P < 95 * 10 ^ 798) := by
  have hT : 0 < 2 ^ t := Nat.pow_pos (by omega)
  have hu := h.up
  have hz : Z 0 = 10 ^ 400 := rfl
  rw [hz] at hu
  constructor
  · refine Nat.lt_of_not_le (fun hge => ?_)
    have k1 : 2 ^ (t + 1025) ≤ 2 ^ e1 := Nat.pow_le_pow_right (by omega) hge
    have k2 : 5 * 10 ^ 799 * 10 ^ 400 * 2 ^ (t + 1025) ≤ X0 * 2 ^ t := Nat.le_trans (Nat.mul_le_mul (Nat.mul_le_mul_right _ h5) k1) hu
    rw [Nat.pow_add, Nat.mul_comm (2 ^ t), ← Nat.mul_assoc] at k2
    have k3 := Nat.le_of_mul_le_mul_right k2 hT
    have k4 : 17 * 10 ^ 1507 ≤ 5 * 10 ^ 799 * 10 ^ 400 * 2 ^ 1025 := by decide +kernel
    exact absurd (Nat.lt_of_lt_of_le hX (Nat.le_trans k4 k3)) (Nat.lt_irrefl _)
  · intro he
    refine Nat.lt_of_not_le (fun hge => ?_)
    rw [he, Nat.pow_add, Nat.mul_comm (2 ^ t), ← Nat.mul_assoc] at hu
    have k3 := Nat.le_of_mul_le_mul_right hu hT
    have k5 : 95 * 10 ^ 798 * 10 ^ 400 * 2 ^ 1024 ≤ X0 := Nat.le_trans (Nat.mul_le_mul_right _ (Nat.mul_le_mul_right _ hge)) k3
    have k4 : 17 * 10 ^ 1507 ≤ 95 * 10 ^ 798 * 10 ^ 400 * 2 ^ 1024 := by decide +kernel
    exact absurd (Nat.lt_of_lt_of_le hX (Nat.le_trans k4 k5)) (Nat.lt_irrefl _)
theorem FB.band {X0 P e1 t s : Nat} (h : FB X0 P 0 e1 t s) (h8 : P < 10 ^ 800) (hs : s ≤ 100000) (hX : 17 * 10 ^ 1507 ≤ X0) : t + 1024 ≤ e1 ∧ (e1 = t + 1024 → 94 * 10 ^ 798 ≤ P) := by
  have hT : 0 < 2 ^ t := Nat.pow_pos (by omega)
  have hl := h.lo
  have hz : Z 0 = 10 ^ 400 := rfl
  rw [hz] at hl
  have hs' : 10 ^ 799 - 100000 ≤ 10 ^ 799 - s := Nat.sub_le_sub_left hs _
  have low : (10 ^ 799 - 100000) * (17 * 10 ^ 1507) * 2 ^ t ≤ P * 10 ^ 400 * 2 ^ e1 * 10 ^ 799 := by
    refine Nat.le_trans ?_ hl
    rw [Nat.mul_assoc]
    exact Nat.mul_le_mul hs' (Nat.mul_le_mul_right _ hX)
  constructor
  · refine Nat.le_of_not_lt (fun hlt => ?_)
    have k1 : 2 ^ e1 ≤ 2 ^ (t + 1023) := Nat.pow_le_pow_right (by omega) (by omega)
    have k2 : P * 10 ^ 400 * 2 ^ e1 * 10 ^ 799 ≤ 10 ^ 800 * 10 ^ 400 * 2 ^ 1023 * 10 ^ 799 * 2 ^ t := by
      have : 10 ^ 800 * 10 ^ 400 * 2 ^ 1023 * 10 ^ 799 * 2 ^ t = 10 ^ 800 * 10 ^ 400 * 2 ^ (t + 1023) * 10 ^ 799 := by
        rw [Nat.pow_add]; simp only [Nat.mul_assoc, Nat.mul_comm, Nat.mul_left_comm]
      rw [this]
      exact Nat.mul_le_mul_right _ (Nat.mul_le_mul (Nat.mul_le_mul_right _ (Nat.le_of_lt h8)) k1)
    have k3 := Nat.le_of_mul_le_mul_right (Nat.le_trans low k2) hT
    exact absurd k3 (by decide +kernel)
  · intro he
    refine Nat.le_of_not_lt (fun hlt => ?_)
    have k2 : P * 10 ^ 400 * 2 ^ e1 * 10 ^ 799 ≤ 94 * 10 ^ 798 * 10 ^ 400 * 2 ^ 1024 * 10 ^ 799 * 2 ^ t := by
      have : 94 * 10 ^ 798 * 10 ^ 400 * 2 ^ 1024 * 10 ^ 799 * 2 ^ t = 94 * 10 ^ 798 * 10 ^ 400 * 2 ^ (t + 1024) * 10 ^ 799 := by
        rw [Nat.pow_add]; simp only [Nat.mul_assoc, Nat.mul_comm, Nat.mul_left_comm]
      rw [this, he]
      exact Nat.mul_le_mul_right _ (Nat.mul_le_mul_right _ (Nat.mul_le_mul_right _ (Nat.le_of_lt hlt)))
    have k3 := Nat.le_of_mul_le_mul_right (Nat.le_trans low k2) hT
    exact absurd k3 (by decide +kernel)
theorem FB.top {X0 P e1 t s : Nat} (h : FB X0 P 0 e1 t s) (h5 : 5 * 10 ^ 799 ≤ P) (hX : X0 < 10 ^ 1513) : e1 < t + 1100 := by
  have hT : 0 < 2 ^ t := Nat.pow_pos (by omega)
  have hu := h.up
  have hz : Z 0 = 10 ^ 400 := rfl
  rw [hz] at hu
  refine Nat.lt_of_not_le (fun hge => ?_)
  have k1 : 2 ^ (t + 1100) ≤ 2 ^ e1 := Nat.pow_le_pow_right (by omega) hge
  have k2 : 5 * 10 ^ 799 * 10 ^ 400 * 2 ^ (t + 1100) ≤ X0 * 2 ^ t := Nat.le_trans (Nat.mul_le_mul (Nat.mul_le_mul_right _ h5) k1) hu
  rw [Nat.pow_add, Nat.mul_comm (2 ^ t), ← Nat.mul_assoc] at k2
  have k3 := Nat.le_of_mul_le_mul_right k2 hT
  have k4 : 10 ^ 1513 ≤ 5 * 10 ^ 799 * 10 ^ 400 * 2 ^ 1100 := by decide +kernel
  exact absurd (Nat.lt_of_lt_of_le hX (Nat.le_trans k4 k3)) (Nat.lt_irrefl _)
end Go.Proofs.Qxb6600776aDoor
